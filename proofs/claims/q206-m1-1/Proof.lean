import JvmDerived
import JvmDerived.Pilot.@@N@@Statement
import JvmDerived.Pilot.@@N@@Code
set_option linter.unusedVariables false
set_option linter.unusedSimpArgs false
namespace Jvm.Pilot.@@N@@
open Jvm Jvm.ClassFile Sem Op Lib Jvm.Free Jvm.Stand Jvm.LawKit Jvm.RoadKit Bundle Jvm.Pilot.@@N@@.Jvm.D
theorem own_lit {r c : Int32} {v : Int} (e : c.toInt = v) (h : r.toInt = v) : r = c := Int32.toInt_inj.mp (h.trans e.symm)
theorem own_eqi {args : Array Value} {first s : State} {o : Option Outcome} {idx : List Nat} {t : Jvm.Term} {n : Int32} (h : (Jvm.Cond.eq t (Jvm.Term.int n)).value args first o s idx = some true) : t.eval args first o idx s = some (.int n) := by
  obtain ⟨x, y, h1, h2, h3, -⟩ := cmp_v (Or.inl h)
  have h4 := h2.symm.trans (Term.int_eval n)
  cases h4
  cases x with
  | int i => have h5 := gotT (Cond.eq_ints h1 h2) h; rw [h1, h5]
  | _ => first | (obtain ⟨z, hz⟩ := h3; cases hz; done) | exact absurd h3.2 (by simp [Value.isRef])
def own_Q (w : Value) (h0 : Heap) (n0 : Nat) (v : Option Value) (h : Heap) (L : List Loc) : Prop := v = some w ∧ Fr n0 L ∧ h = h0
theorem own_split0 (p0 : Int32) : ((p0 &&& (2147483647 : Int32)) % (5 : Int32)) = (0 : Int32) ∨ ((p0 &&& (2147483647 : Int32)) % (5 : Int32)) = (1 : Int32) ∨ ((p0 &&& (2147483647 : Int32)) % (5 : Int32)) = (2 : Int32) ∨ ((p0 &&& (2147483647 : Int32)) % (5 : Int32)) = (3 : Int32) ∨ ((p0 &&& (2147483647 : Int32)) % (5 : Int32)) = (4 : Int32) := by
  have h1 := c_mask p0 (2147483647 : Int32) 31 (by decide) (by decide)
  have h0 : 0 ≤ (p0 &&& (2147483647 : Int32)).toInt := by rw [h1]; exact Int.emod_nonneg _ (by decide)
  have h2 := (c_irem (p0 &&& (2147483647 : Int32)) (5 : Int32) 5 rfl).1 h0
  have h3 : ((p0 &&& (2147483647 : Int32)) % (5 : Int32)).toInt = 0 ∨ ((p0 &&& (2147483647 : Int32)) % (5 : Int32)).toInt = 1 ∨ ((p0 &&& (2147483647 : Int32)) % (5 : Int32)).toInt = 2 ∨ ((p0 &&& (2147483647 : Int32)) % (5 : Int32)).toInt = 3 ∨ ((p0 &&& (2147483647 : Int32)) % (5 : Int32)).toInt = 4 := by omega
  rcases h3 with h | h | h | h | h
  · exact Or.inl (own_lit rfl h)
  · exact Or.inr (Or.inl (own_lit rfl h))
  · exact Or.inr (Or.inr (Or.inl (own_lit rfl h)))
  · exact Or.inr (Or.inr (Or.inr (Or.inl (own_lit rfl h))))
  · exact Or.inr (Or.inr (Or.inr (Or.inr (own_lit rfl h))))
theorem own_split1 (p1 : Int32) : ((p1 &&& (2147483647 : Int32)) % (5 : Int32)) = (0 : Int32) ∨ ((p1 &&& (2147483647 : Int32)) % (5 : Int32)) = (1 : Int32) ∨ ((p1 &&& (2147483647 : Int32)) % (5 : Int32)) = (2 : Int32) ∨ ((p1 &&& (2147483647 : Int32)) % (5 : Int32)) = (3 : Int32) ∨ ((p1 &&& (2147483647 : Int32)) % (5 : Int32)) = (4 : Int32) := by
  have h1 := c_mask p1 (2147483647 : Int32) 31 (by decide) (by decide)
  have h0 : 0 ≤ (p1 &&& (2147483647 : Int32)).toInt := by rw [h1]; exact Int.emod_nonneg _ (by decide)
  have h2 := (c_irem (p1 &&& (2147483647 : Int32)) (5 : Int32) 5 rfl).1 h0
  have h3 : ((p1 &&& (2147483647 : Int32)) % (5 : Int32)).toInt = 0 ∨ ((p1 &&& (2147483647 : Int32)) % (5 : Int32)).toInt = 1 ∨ ((p1 &&& (2147483647 : Int32)) % (5 : Int32)).toInt = 2 ∨ ((p1 &&& (2147483647 : Int32)) % (5 : Int32)).toInt = 3 ∨ ((p1 &&& (2147483647 : Int32)) % (5 : Int32)).toInt = 4 := by omega
  rcases h3 with h | h | h | h | h
  · exact Or.inl (own_lit rfl h)
  · exact Or.inr (Or.inl (own_lit rfl h))
  · exact Or.inr (Or.inr (Or.inl (own_lit rfl h)))
  · exact Or.inr (Or.inr (Or.inr (Or.inl (own_lit rfl h))))
  · exact Or.inr (Or.inr (Or.inr (Or.inr (own_lit rfl h))))
def Facts (Z : State) (h : Heap) (a_READ a_COMMIT a_ABORT a_WRITE a_INCREMENT : Addr) : Prop :=
  Sta Z h "com/example/schedulock/schedulock/schedule/OperationKind" "READ" "Lcom/example/schedulock/schedulock/schedule/OperationKind;" (.ref a_READ) ∧
  Exa Z h a_READ "com/example/schedulock/schedulock/schedule/OperationKind" ∧
  Sta Z h "com/example/schedulock/schedulock/schedule/OperationKind" "COMMIT" "Lcom/example/schedulock/schedulock/schedule/OperationKind;" (.ref a_COMMIT) ∧
  Exa Z h a_COMMIT "com/example/schedulock/schedulock/schedule/OperationKind" ∧
  Fld Z h a_READ "com/example/schedulock/schedulock/schedule/OperationKind" "takesItem" "Z" (.int (1 : Int32)) ∧
  Fld Z h a_COMMIT "com/example/schedulock/schedulock/schedule/OperationKind" "takesItem" "Z" (.int (0 : Int32)) ∧
  Sta Z h "com/example/schedulock/schedulock/schedule/OperationKind" "ABORT" "Lcom/example/schedulock/schedulock/schedule/OperationKind;" (.ref a_ABORT) ∧
  Exa Z h a_ABORT "com/example/schedulock/schedulock/schedule/OperationKind" ∧
  Sta Z h "com/example/schedulock/schedulock/schedule/OperationKind" "WRITE" "Lcom/example/schedulock/schedulock/schedule/OperationKind;" (.ref a_WRITE) ∧
  Exa Z h a_WRITE "com/example/schedulock/schedulock/schedule/OperationKind" ∧
  Fld Z h a_ABORT "com/example/schedulock/schedulock/schedule/OperationKind" "takesItem" "Z" (.int (0 : Int32)) ∧
  Fld Z h a_WRITE "com/example/schedulock/schedulock/schedule/OperationKind" "takesItem" "Z" (.int (1 : Int32)) ∧
  Fld Z h a_WRITE "com/example/schedulock/schedulock/schedule/OperationKind" "commutesWithItself" "Z" (.int (0 : Int32)) ∧
  Fld Z h a_WRITE "java/lang/Enum" "ordinal" "I" (.int (1 : Int32)) ∧
  Fld Z h a_READ "java/lang/Enum" "ordinal" "I" (.int (0 : Int32)) ∧
  Sta Z h "com/example/schedulock/schedulock/schedule/OperationKind" "INCREMENT" "Lcom/example/schedulock/schedulock/schedule/OperationKind;" (.ref a_INCREMENT) ∧
  Exa Z h a_INCREMENT "com/example/schedulock/schedulock/schedule/OperationKind" ∧
  Fld Z h a_INCREMENT "com/example/schedulock/schedulock/schedule/OperationKind" "takesItem" "Z" (.int (1 : Int32)) ∧
  Fld Z h a_INCREMENT "java/lang/Enum" "ordinal" "I" (.int (2 : Int32)) ∧
  Fld Z h a_READ "com/example/schedulock/schedulock/schedule/OperationKind" "commutesWithItself" "Z" (.int (1 : Int32)) ∧
  Fld Z h a_INCREMENT "com/example/schedulock/schedulock/schedule/OperationKind" "commutesWithItself" "Z" (.int (1 : Int32)) ∧
  Fld Z h a_COMMIT "com/example/schedulock/schedulock/schedule/OperationKind" "commutesWithItself" "Z" (.int (0 : Int32)) ∧
  Fld Z h a_ABORT "com/example/schedulock/schedulock/schedule/OperationKind" "commutesWithItself" "Z" (.int (0 : Int32))
theorem fx_S_READ {Z : State} {h : Heap} {a_READ a_COMMIT a_ABORT a_WRITE a_INCREMENT : Addr} (F : Facts Z h a_READ a_COMMIT a_ABORT a_WRITE a_INCREMENT) : Sta Z h "com/example/schedulock/schedulock/schedule/OperationKind" "READ" "Lcom/example/schedulock/schedulock/schedule/OperationKind;" (.ref a_READ) := F.1
theorem fx_E_READ {Z : State} {h : Heap} {a_READ a_COMMIT a_ABORT a_WRITE a_INCREMENT : Addr} (F : Facts Z h a_READ a_COMMIT a_ABORT a_WRITE a_INCREMENT) : Exa Z h a_READ "com/example/schedulock/schedulock/schedule/OperationKind" := F.2.1
theorem fx_S_COMMIT {Z : State} {h : Heap} {a_READ a_COMMIT a_ABORT a_WRITE a_INCREMENT : Addr} (F : Facts Z h a_READ a_COMMIT a_ABORT a_WRITE a_INCREMENT) : Sta Z h "com/example/schedulock/schedulock/schedule/OperationKind" "COMMIT" "Lcom/example/schedulock/schedulock/schedule/OperationKind;" (.ref a_COMMIT) := F.2.2.1
theorem fx_E_COMMIT {Z : State} {h : Heap} {a_READ a_COMMIT a_ABORT a_WRITE a_INCREMENT : Addr} (F : Facts Z h a_READ a_COMMIT a_ABORT a_WRITE a_INCREMENT) : Exa Z h a_COMMIT "com/example/schedulock/schedulock/schedule/OperationKind" := F.2.2.2.1
theorem fx_F_READ_takesItem {Z : State} {h : Heap} {a_READ a_COMMIT a_ABORT a_WRITE a_INCREMENT : Addr} (F : Facts Z h a_READ a_COMMIT a_ABORT a_WRITE a_INCREMENT) : Fld Z h a_READ "com/example/schedulock/schedulock/schedule/OperationKind" "takesItem" "Z" (.int (1 : Int32)) := F.2.2.2.2.1
theorem fx_F_COMMIT_takesItem {Z : State} {h : Heap} {a_READ a_COMMIT a_ABORT a_WRITE a_INCREMENT : Addr} (F : Facts Z h a_READ a_COMMIT a_ABORT a_WRITE a_INCREMENT) : Fld Z h a_COMMIT "com/example/schedulock/schedulock/schedule/OperationKind" "takesItem" "Z" (.int (0 : Int32)) := F.2.2.2.2.2.1
theorem fx_S_ABORT {Z : State} {h : Heap} {a_READ a_COMMIT a_ABORT a_WRITE a_INCREMENT : Addr} (F : Facts Z h a_READ a_COMMIT a_ABORT a_WRITE a_INCREMENT) : Sta Z h "com/example/schedulock/schedulock/schedule/OperationKind" "ABORT" "Lcom/example/schedulock/schedulock/schedule/OperationKind;" (.ref a_ABORT) := F.2.2.2.2.2.2.1
theorem fx_E_ABORT {Z : State} {h : Heap} {a_READ a_COMMIT a_ABORT a_WRITE a_INCREMENT : Addr} (F : Facts Z h a_READ a_COMMIT a_ABORT a_WRITE a_INCREMENT) : Exa Z h a_ABORT "com/example/schedulock/schedulock/schedule/OperationKind" := F.2.2.2.2.2.2.2.1
theorem fx_S_WRITE {Z : State} {h : Heap} {a_READ a_COMMIT a_ABORT a_WRITE a_INCREMENT : Addr} (F : Facts Z h a_READ a_COMMIT a_ABORT a_WRITE a_INCREMENT) : Sta Z h "com/example/schedulock/schedulock/schedule/OperationKind" "WRITE" "Lcom/example/schedulock/schedulock/schedule/OperationKind;" (.ref a_WRITE) := F.2.2.2.2.2.2.2.2.1
theorem fx_E_WRITE {Z : State} {h : Heap} {a_READ a_COMMIT a_ABORT a_WRITE a_INCREMENT : Addr} (F : Facts Z h a_READ a_COMMIT a_ABORT a_WRITE a_INCREMENT) : Exa Z h a_WRITE "com/example/schedulock/schedulock/schedule/OperationKind" := F.2.2.2.2.2.2.2.2.2.1
theorem fx_F_ABORT_takesItem {Z : State} {h : Heap} {a_READ a_COMMIT a_ABORT a_WRITE a_INCREMENT : Addr} (F : Facts Z h a_READ a_COMMIT a_ABORT a_WRITE a_INCREMENT) : Fld Z h a_ABORT "com/example/schedulock/schedulock/schedule/OperationKind" "takesItem" "Z" (.int (0 : Int32)) := F.2.2.2.2.2.2.2.2.2.2.1
theorem fx_F_WRITE_takesItem {Z : State} {h : Heap} {a_READ a_COMMIT a_ABORT a_WRITE a_INCREMENT : Addr} (F : Facts Z h a_READ a_COMMIT a_ABORT a_WRITE a_INCREMENT) : Fld Z h a_WRITE "com/example/schedulock/schedulock/schedule/OperationKind" "takesItem" "Z" (.int (1 : Int32)) := F.2.2.2.2.2.2.2.2.2.2.2.1
theorem fx_F_WRITE_commutesWithItself {Z : State} {h : Heap} {a_READ a_COMMIT a_ABORT a_WRITE a_INCREMENT : Addr} (F : Facts Z h a_READ a_COMMIT a_ABORT a_WRITE a_INCREMENT) : Fld Z h a_WRITE "com/example/schedulock/schedulock/schedule/OperationKind" "commutesWithItself" "Z" (.int (0 : Int32)) := F.2.2.2.2.2.2.2.2.2.2.2.2.1
theorem fx_F_WRITE_ordinal {Z : State} {h : Heap} {a_READ a_COMMIT a_ABORT a_WRITE a_INCREMENT : Addr} (F : Facts Z h a_READ a_COMMIT a_ABORT a_WRITE a_INCREMENT) : Fld Z h a_WRITE "java/lang/Enum" "ordinal" "I" (.int (1 : Int32)) := F.2.2.2.2.2.2.2.2.2.2.2.2.2.1
theorem fx_F_READ_ordinal {Z : State} {h : Heap} {a_READ a_COMMIT a_ABORT a_WRITE a_INCREMENT : Addr} (F : Facts Z h a_READ a_COMMIT a_ABORT a_WRITE a_INCREMENT) : Fld Z h a_READ "java/lang/Enum" "ordinal" "I" (.int (0 : Int32)) := F.2.2.2.2.2.2.2.2.2.2.2.2.2.2.1
theorem fx_S_INCREMENT {Z : State} {h : Heap} {a_READ a_COMMIT a_ABORT a_WRITE a_INCREMENT : Addr} (F : Facts Z h a_READ a_COMMIT a_ABORT a_WRITE a_INCREMENT) : Sta Z h "com/example/schedulock/schedulock/schedule/OperationKind" "INCREMENT" "Lcom/example/schedulock/schedulock/schedule/OperationKind;" (.ref a_INCREMENT) := F.2.2.2.2.2.2.2.2.2.2.2.2.2.2.2.1
theorem fx_E_INCREMENT {Z : State} {h : Heap} {a_READ a_COMMIT a_ABORT a_WRITE a_INCREMENT : Addr} (F : Facts Z h a_READ a_COMMIT a_ABORT a_WRITE a_INCREMENT) : Exa Z h a_INCREMENT "com/example/schedulock/schedulock/schedule/OperationKind" := F.2.2.2.2.2.2.2.2.2.2.2.2.2.2.2.2.1
theorem fx_F_INCREMENT_takesItem {Z : State} {h : Heap} {a_READ a_COMMIT a_ABORT a_WRITE a_INCREMENT : Addr} (F : Facts Z h a_READ a_COMMIT a_ABORT a_WRITE a_INCREMENT) : Fld Z h a_INCREMENT "com/example/schedulock/schedulock/schedule/OperationKind" "takesItem" "Z" (.int (1 : Int32)) := F.2.2.2.2.2.2.2.2.2.2.2.2.2.2.2.2.2.1
theorem fx_F_INCREMENT_ordinal {Z : State} {h : Heap} {a_READ a_COMMIT a_ABORT a_WRITE a_INCREMENT : Addr} (F : Facts Z h a_READ a_COMMIT a_ABORT a_WRITE a_INCREMENT) : Fld Z h a_INCREMENT "java/lang/Enum" "ordinal" "I" (.int (2 : Int32)) := F.2.2.2.2.2.2.2.2.2.2.2.2.2.2.2.2.2.2.1
theorem fx_F_READ_commutesWithItself {Z : State} {h : Heap} {a_READ a_COMMIT a_ABORT a_WRITE a_INCREMENT : Addr} (F : Facts Z h a_READ a_COMMIT a_ABORT a_WRITE a_INCREMENT) : Fld Z h a_READ "com/example/schedulock/schedulock/schedule/OperationKind" "commutesWithItself" "Z" (.int (1 : Int32)) := F.2.2.2.2.2.2.2.2.2.2.2.2.2.2.2.2.2.2.2.1
theorem fx_F_INCREMENT_commutesWithItself {Z : State} {h : Heap} {a_READ a_COMMIT a_ABORT a_WRITE a_INCREMENT : Addr} (F : Facts Z h a_READ a_COMMIT a_ABORT a_WRITE a_INCREMENT) : Fld Z h a_INCREMENT "com/example/schedulock/schedulock/schedule/OperationKind" "commutesWithItself" "Z" (.int (1 : Int32)) := F.2.2.2.2.2.2.2.2.2.2.2.2.2.2.2.2.2.2.2.2.1
theorem fx_F_COMMIT_commutesWithItself {Z : State} {h : Heap} {a_READ a_COMMIT a_ABORT a_WRITE a_INCREMENT : Addr} (F : Facts Z h a_READ a_COMMIT a_ABORT a_WRITE a_INCREMENT) : Fld Z h a_COMMIT "com/example/schedulock/schedulock/schedule/OperationKind" "commutesWithItself" "Z" (.int (0 : Int32)) := F.2.2.2.2.2.2.2.2.2.2.2.2.2.2.2.2.2.2.2.2.2.1
theorem fx_F_ABORT_commutesWithItself {Z : State} {h : Heap} {a_READ a_COMMIT a_ABORT a_WRITE a_INCREMENT : Addr} (F : Facts Z h a_READ a_COMMIT a_ABORT a_WRITE a_INCREMENT) : Fld Z h a_ABORT "com/example/schedulock/schedulock/schedule/OperationKind" "commutesWithItself" "Z" (.int (0 : Int32)) := F.2.2.2.2.2.2.2.2.2.2.2.2.2.2.2.2.2.2.2.2.2.2
theorem Facts.ext {Z : State} {h h' : Heap} {a_READ a_COMMIT a_ABORT a_WRITE a_INCREMENT : Addr} (F : Facts Z h a_READ a_COMMIT a_ABORT a_WRITE a_INCREMENT) (E : Ext h h') : Facts Z h' a_READ a_COMMIT a_ABORT a_WRITE a_INCREMENT := ⟨Sta.ext E (fx_S_READ F), Exa.ext E (fx_E_READ F), Sta.ext E (fx_S_COMMIT F), Exa.ext E (fx_E_COMMIT F), Fld.ext E (fx_F_READ_takesItem F), Fld.ext E (fx_F_COMMIT_takesItem F), Sta.ext E (fx_S_ABORT F), Exa.ext E (fx_E_ABORT F), Sta.ext E (fx_S_WRITE F), Exa.ext E (fx_E_WRITE F), Fld.ext E (fx_F_ABORT_takesItem F), Fld.ext E (fx_F_WRITE_takesItem F), Fld.ext E (fx_F_WRITE_commutesWithItself F), Fld.ext E (fx_F_WRITE_ordinal F), Fld.ext E (fx_F_READ_ordinal F), Sta.ext E (fx_S_INCREMENT F), Exa.ext E (fx_E_INCREMENT F), Fld.ext E (fx_F_INCREMENT_takesItem F), Fld.ext E (fx_F_INCREMENT_ordinal F), Fld.ext E (fx_F_READ_commutesWithItself F), Fld.ext E (fx_F_INCREMENT_commutesWithItself F), Fld.ext E (fx_F_COMMIT_commutesWithItself F), Fld.ext E (fx_F_ABORT_commutesWithItself F)⟩
theorem Facts.wr {Z : State} {h h' : Heap} {a_READ a_COMMIT a_ABORT a_WRITE a_INCREMENT : Addr} {h0 : Heap} {b : Addr} {sl : Nat} {v : Value} (F0 : Facts Z h0 a_READ a_COMMIT a_ABORT a_WRITE a_INCREMENT) (F : Facts Z h a_READ a_COMMIT a_ABORT a_WRITE a_INCREMENT) (W : Wr h h' b sl v) (q : h0.size ≤ b) : Facts Z h' a_READ a_COMMIT a_ABORT a_WRITE a_INCREMENT := ⟨Sta.wr W (fx_S_READ F), Exa.wr W (fx_E_READ F), Sta.wr W (fx_S_COMMIT F), Exa.wr W (fx_E_COMMIT F), Fld.other W (fx_F_READ_takesItem F) (Or.inl (Nat.ne_of_lt (Nat.lt_of_lt_of_le (fx_E_READ F0).lt q))), Fld.other W (fx_F_COMMIT_takesItem F) (Or.inl (Nat.ne_of_lt (Nat.lt_of_lt_of_le (fx_E_COMMIT F0).lt q))), Sta.wr W (fx_S_ABORT F), Exa.wr W (fx_E_ABORT F), Sta.wr W (fx_S_WRITE F), Exa.wr W (fx_E_WRITE F), Fld.other W (fx_F_ABORT_takesItem F) (Or.inl (Nat.ne_of_lt (Nat.lt_of_lt_of_le (fx_E_ABORT F0).lt q))), Fld.other W (fx_F_WRITE_takesItem F) (Or.inl (Nat.ne_of_lt (Nat.lt_of_lt_of_le (fx_E_WRITE F0).lt q))), Fld.other W (fx_F_WRITE_commutesWithItself F) (Or.inl (Nat.ne_of_lt (Nat.lt_of_lt_of_le (fx_E_WRITE F0).lt q))), Fld.other W (fx_F_WRITE_ordinal F) (Or.inl (Nat.ne_of_lt (Nat.lt_of_lt_of_le (fx_E_WRITE F0).lt q))), Fld.other W (fx_F_READ_ordinal F) (Or.inl (Nat.ne_of_lt (Nat.lt_of_lt_of_le (fx_E_READ F0).lt q))), Sta.wr W (fx_S_INCREMENT F), Exa.wr W (fx_E_INCREMENT F), Fld.other W (fx_F_INCREMENT_takesItem F) (Or.inl (Nat.ne_of_lt (Nat.lt_of_lt_of_le (fx_E_INCREMENT F0).lt q))), Fld.other W (fx_F_INCREMENT_ordinal F) (Or.inl (Nat.ne_of_lt (Nat.lt_of_lt_of_le (fx_E_INCREMENT F0).lt q))), Fld.other W (fx_F_READ_commutesWithItself F) (Or.inl (Nat.ne_of_lt (Nat.lt_of_lt_of_le (fx_E_READ F0).lt q))), Fld.other W (fx_F_INCREMENT_commutesWithItself F) (Or.inl (Nat.ne_of_lt (Nat.lt_of_lt_of_le (fx_E_INCREMENT F0).lt q))), Fld.other W (fx_F_COMMIT_commutesWithItself F) (Or.inl (Nat.ne_of_lt (Nat.lt_of_lt_of_le (fx_E_COMMIT F0).lt q))), Fld.other W (fx_F_ABORT_commutesWithItself F) (Or.inl (Nat.ne_of_lt (Nat.lt_of_lt_of_le (fx_E_ABORT F0).lt q)))⟩
theorem pn_0 : plainName "com/example/schedulock/schedulock/schedule/OperationKindConflictsWithPinLaw" = true := by first | (simp [plainName, overriddenIn]; done) | decide +kernel
theorem ef_0 (m : MethodId) (x0 : Int32) (x1 : Int32) : entryFrame m #[(.int x0), (.int x1)] maxLocals = mkF m 0 #[.val (.int x0), .val (.int x1), .unset, .unset, .unset, .unset, .unset, .unset] [] := by first | (simp [entryFrame, mkF, argsToLocals, Value.category, maxLocals]; done) | rfl
theorem d1_0 : decode method_3_code 0 = .ok (.iload_n 0, 1) := by decide +kernel
theorem d1_1 : decode method_3_code 1 = .ok (.ifCond .ne 7, 3) := by decide +kernel
theorem d1_4 : decode method_3_code 4 = .ok (.getstatic 20, 3) := by decide +kernel
theorem d1_7 : decode method_3_code 7 = .ok (.areturn, 1) := by decide +kernel
theorem d1_8 : decode method_3_code 8 = .ok (.iload_n 0, 1) := by decide +kernel
theorem d1_9 : decode method_3_code 9 = .ok (.iconst 1, 1) := by decide +kernel
theorem d1_10 : decode method_3_code 10 = .ok (.if_icmp .ne 7, 3) := by decide +kernel
theorem d1_13 : decode method_3_code 13 = .ok (.getstatic 24, 3) := by decide +kernel
theorem d1_16 : decode method_3_code 16 = .ok (.areturn, 1) := by decide +kernel
theorem d1_17 : decode method_3_code 17 = .ok (.iload_n 0, 1) := by decide +kernel
theorem d1_18 : decode method_3_code 18 = .ok (.iconst 2, 1) := by decide +kernel
theorem d1_19 : decode method_3_code 19 = .ok (.if_icmp .ne 7, 3) := by decide +kernel
theorem d1_22 : decode method_3_code 22 = .ok (.getstatic 27, 3) := by decide +kernel
theorem d1_25 : decode method_3_code 25 = .ok (.areturn, 1) := by decide +kernel
theorem d1_26 : decode method_3_code 26 = .ok (.iload_n 0, 1) := by decide +kernel
theorem d1_27 : decode method_3_code 27 = .ok (.iconst 3, 1) := by decide +kernel
theorem d1_28 : decode method_3_code 28 = .ok (.if_icmp .ne 7, 3) := by decide +kernel
theorem d1_31 : decode method_3_code 31 = .ok (.getstatic 30, 3) := by decide +kernel
theorem d1_34 : decode method_3_code 34 = .ok (.areturn, 1) := by decide +kernel
theorem d1_35 : decode method_3_code 35 = .ok (.getstatic 33, 3) := by decide +kernel
theorem d1_38 : decode method_3_code 38 = .ok (.areturn, 1) := by decide +kernel
theorem pn_1 : plainName "com/example/schedulock/schedulock/schedule/OperationKindConflictsWithPinLaw" = true := by first | (simp [plainName, overriddenIn]; done) | decide +kernel
theorem ef_1 (m : MethodId) (x0 : Int32) : entryFrame m #[(.int x0)] 1 = mkF m 0 #[.val (.int x0)] [] := by first | (simp [entryFrame, mkF, argsToLocals, Value.category]; done) | rfl
theorem d2_0 : decode prog_31_method_5_code 0 = .ok (.aload_n 0, 1) := by decide +kernel
theorem d2_1 : decode prog_31_method_5_code 1 = .ok (.getfield 42, 3) := by decide +kernel
theorem d2_4 : decode prog_31_method_5_code 4 = .ok (.ifCond .eq 26, 3) := by decide +kernel
theorem d2_7 : decode prog_31_method_5_code 7 = .ok (.aload_n 1, 1) := by decide +kernel
theorem d2_8 : decode prog_31_method_5_code 8 = .ok (.getfield 42, 3) := by decide +kernel
theorem d2_11 : decode prog_31_method_5_code 11 = .ok (.ifCond .eq 19, 3) := by decide +kernel
theorem d2_14 : decode prog_31_method_5_code 14 = .ok (.aload_n 0, 1) := by decide +kernel
theorem d2_15 : decode prog_31_method_5_code 15 = .ok (.aload_n 1, 1) := by decide +kernel
theorem d2_16 : decode prog_31_method_5_code 16 = .ok (.if_acmp .ne 10, 3) := by decide +kernel
theorem d2_19 : decode prog_31_method_5_code 19 = .ok (.aload_n 0, 1) := by decide +kernel
theorem d2_20 : decode prog_31_method_5_code 20 = .ok (.getfield 46, 3) := by decide +kernel
theorem d2_23 : decode prog_31_method_5_code 23 = .ok (.ifCond .ne 7, 3) := by decide +kernel
theorem d2_26 : decode prog_31_method_5_code 26 = .ok (.iconst 1, 1) := by decide +kernel
theorem d2_27 : decode prog_31_method_5_code 27 = .ok (.goto 4, 3) := by decide +kernel
theorem d2_30 : decode prog_31_method_5_code 30 = .ok (.iconst 0, 1) := by decide +kernel
theorem d2_31 : decode prog_31_method_5_code 31 = .ok (.ireturn, 1) := by decide +kernel
theorem pn_2 : plainName "com/example/schedulock/schedulock/schedule/OperationKind" = true := by first | (simp [plainName, overriddenIn]; done) | decide +kernel
theorem ef_2 (m : MethodId) (x0 : Addr) (x1 : Addr) : entryFrame m #[(.ref x0), (.ref x1)] 2 = mkF m 0 #[.val (.ref x0), .val (.ref x1)] [] := by first | (simp [entryFrame, mkF, argsToLocals, Value.category]; done) | rfl
theorem pd_0 : parseMethodDescriptor "(I)Lcom/example/schedulock/schedulock/schedule/OperationKind;" = some ⟨[.int], some (.object "com/example/schedulock/schedulock/schedule/OperationKind")⟩ := by decide +kernel
theorem pd_1 : parseMethodDescriptor "(Lcom/example/schedulock/schedulock/schedule/OperationKind;)Z" = some ⟨[(.object "com/example/schedulock/schedulock/schedule/OperationKind")], some .boolean⟩ := by decide +kernel
set_option maxRecDepth 65536 in
set_option maxHeartbeats 40000000 in
theorem rm1_0 (l : Launch) (Z : State) (a0 : Array Value) (hw : ∀ d ∈ tables_1, d.before a0 Z = true) (ws : List Jvm.Cond) (p0 p1 : Int32) (a_READ a_COMMIT a_ABORT a_WRITE a_INCREMENT : Addr) (h0 : Heap) (n0 : Nat) (Z0 : n0 ≤ h0.size) (FF : Facts Z h0 a_READ a_COMMIT a_ABORT a_WRITE a_INCREMENT) :
    MetFree l (⟨"com/example/schedulock/schedulock/schedule/OperationKindConflictsWithPinLaw", "kind", "(I)Lcom/example/schedulock/schedulock/schedule/OperationKind;"⟩ : MethodName) (head1 (Jvm.Cond.code (⟨"com/example/schedulock/schedulock/schedule/OperationKindConflictsWithPinLaw", "kind", "(I)Lcom/example/schedulock/schedulock/schedule/OperationKind;"⟩ : MethodName) method_3_code 1 (some (.object "com/example/schedulock/schedulock/schedule/OperationKind")) :: ws) ({ frames := 0, cells := 0, slots := 0, locals := 0 } : Room)) (fun a U => a = #[(.int (0 : Int32))] ∧ Z.Warmed39 U.vm ∧ U.heap = h0) (fun _ _ _ _ _ => True) (fun _ U o U' => ∃ v L, o = .returned v ∧ own_Q (.ref a_READ) h0 n0 v U'.heap L ∧ FrameEnd U o U' L ({ frames := 0, cells := 0, slots := 0, locals := 0 } : Room).cells ({ frames := 0, cells := 0, slots := 0, locals := 0 } : Room).slots) := by
  refine MetFree.of_bodySF (plainFor_of_name pn_1) hisR ?_
  intro p e s m args below meth c s₁ Bd hml0 hP hK
  obtain ⟨rfl, hZ, hh⟩ := hP
  have hx := Bd.exec
  have hby := Bd.bytes
  have hml : c.maxLocals = 1 := hml0
  have hown : s.vm.findClass "com/example/schedulock/schedulock/schedule/OperationKindConflictsWithPinLaw" = some m.cls := findClass_of_methodNamed Bd.named
  have X0 : Stand p l e ({ frames := 0, cells := 0, slots := 0, locals := 0 } : Room) s m #[(.int (0 : Int32))] below meth c s₁ [] 0 0 := Stand.of_body Bd
  have e0 : s₁.heap = h0 := by rw [← hh, Bd.state]; rfl
  have N0 := Fr.nil n0
  have pre0 : ∀ t, Steps p.tables e below (s₁.setTop (mkF m 0 #[.val (.int (0 : Int32))] [])) t → Steps p.tables e below (s₁.setTop (entryFrame m #[(.int (0 : Int32))] 1)) t := fun t k => castTop (ef_1 m (0 : Int32)) k
  obtain ⟨T1, X1, e1, st1⟩ := getS2 X0 hx hZ hown (host := "") (Or.inl (hw _ (List.mem_of_getElem? (i := 5) rfl))) Via.refl e0 (fx_S_READ FF) (g := (mkF m 4 #[.val (.int (0 : Int32))] [])) rfl (hb hby d1_4)
  obtain ⟨fs, hr, hrun, hended, hW, hsame⟩ := X1.leave (v := some (.ref a_READ)) (fun h => by rw [Bd.returns] at h; cases h)
  refine ⟨_, _, pre0 _ ?_, hrun, hended, _, _, rfl, ?_, ⟨_, rfl⟩, hW, hsame.mono (by decide) (by decide)⟩
  · show Steps p.tables e below (s₁.setTop (mkF m 0 #[.val (.int (0 : Int32))] [])) _
    refine XS.iloadN X0.here hx rfl (hb hby d1_0) rfl ?_
    show Steps p.tables e below (s₁.setTop (mkF m 1 #[.val (.int (0 : Int32))] [(.int (0 : Int32))])) _
    refine XS.ifNo X0.here hx rfl (hb hby d1_1) rfl (by decide) ?_
    show Steps p.tables e below (s₁.setTop (mkF m 4 #[.val (.int (0 : Int32))] [])) _
    refine st1 _ ?_
    show Steps p.tables e below (T1.setTop (mkF m 7 #[.val (.int (0 : Int32))] [(.ref a_READ)])) _
    exact retOut X1 hx Bd.returns rfl (Or.inr (Or.inr (Or.inr (Or.inr ⟨rfl, rfl, rfl⟩)))) (hb hby d1_7) hr
  · show own_Q _ _ _ _ T1.heap _
    exact ⟨rfl, N0, e1⟩
set_option maxRecDepth 65536 in
set_option maxHeartbeats 40000000 in
theorem seg_0 {p : Program} {l : Launch} {e : Env} {s : State} {m : MethodId} {args : Array Value} {below : List Frame} {meth : Method} {c : Code} {T0 : State} {locs : List Loc} {Z : State} {a0 : Array Value} {h0 : Heap} {n0 : Nat} (hw : ∀ d ∈ tables_1, d.before a0 Z = true) (a_READ a_COMMIT a_ABORT a_WRITE a_INCREMENT : Addr) (u0 : Int32) (u1 : Int32) (u2 : Int32) (u3 : Int32) (o4 : Addr) (o5 : Addr)
    (X0 : Stand p l e room_1 s m args below meth c T0 locs 0 0) (hx : p.tables.exec = Jvm.exec) (hZ : Z.Warmed39 s.vm) (hby : c.code = code) (hml : c.maxLocals = 8) (hown : s.vm.findClass "com/example/schedulock/schedulock/schedule/OperationKindConflictsWithPinLaw" = some m.cls) (e0 : T0.heap = h0) (Z0 : n0 ≤ h0.size) (N0 : Fr n0 locs) (FF : Facts Z h0 a_READ a_COMMIT a_ABORT a_WRITE a_INCREMENT) :
    ∃ (T' : State) (h' : Heap) (b : Addr) (k : ClassId) (lc : List Loc), Stand p l e room_1 s m args below meth c T' lc 1 25 ∧ T'.heap = h' ∧ h0.size ≤ b ∧ h0.size ≤ h'.size ∧ Fr n0 lc ∧ Facts Z h' a_READ a_COMMIT a_ABORT a_WRITE a_INCREMENT ∧ Arv Z h' b k .boolean (25 : Int32) [(.int (0 : Int32)), (.int (1 : Int32)), (.int (1 : Int32)), (.int (0 : Int32)), (.int (0 : Int32)), (.int (1 : Int32)), (.int (1 : Int32)), (.int (1 : Int32)), (.int (0 : Int32)), (.int (0 : Int32)), (.int (1 : Int32)), (.int (1 : Int32)), (.int (0 : Int32)), (.int (0 : Int32)), (.int (0 : Int32)), (.int (0 : Int32)), (.int (0 : Int32)), (.int (0 : Int32)), (.int (0 : Int32)), (.int (0 : Int32)), (.int (0 : Int32)), (.int (0 : Int32)), (.int (0 : Int32)), (.int (0 : Int32)), (.int (0 : Int32))] (.int (0 : Int32)) ∧
      ∀ target, Steps p.tables e below (T'.setTop (mkF m 151 #[.val (.int u0), .val (.int u1), .val (.int u2), .val (.int u3), .val (.ref o4), .val (.ref o5), .val (.ref b), .unset] [])) target → Steps p.tables e below (T0.setTop (mkF m 26 #[.val (.int u0), .val (.int u1), .val (.int u2), .val (.int u3), .val (.ref o4), .val (.ref o5), .unset, .unset] [])) target := by
  obtain ⟨T1, h1, k1, X1, e1, E1, A1, st1⟩ := newP X0 hx hZ (hw _ (List.mem_of_getElem? (i := 10) rfl)) e0 (g := (mkF m 28 #[.val (.int u0), .val (.int u1), .val (.int u2), .val (.int u3), .val (.ref o4), .val (.ref o5), .unset, .unset] [(.int (25 : Int32))])) rfl (hb hby at_28) rfl (by decide) (cap := 25) (by decide) (by decide) (by decide) (by decide)
  obtain ⟨b1, g1⟩ : ∃ z, z = h0.size := ⟨_, rfl⟩
  rw [← g1] at A1 st1
  have V1 : Arv Z h1 b1 k1 .boolean (25 : Int32) [(.int (0 : Int32)), (.int (0 : Int32)), (.int (0 : Int32)), (.int (0 : Int32)), (.int (0 : Int32)), (.int (0 : Int32)), (.int (0 : Int32)), (.int (0 : Int32)), (.int (0 : Int32)), (.int (0 : Int32)), (.int (0 : Int32)), (.int (0 : Int32)), (.int (0 : Int32)), (.int (0 : Int32)), (.int (0 : Int32)), (.int (0 : Int32)), (.int (0 : Int32)), (.int (0 : Int32)), (.int (0 : Int32)), (.int (0 : Int32)), (.int (0 : Int32)), (.int (0 : Int32)), (.int (0 : Int32)), (.int (0 : Int32)), (.int (0 : Int32))] (.int (0 : Int32)) := (Arv.new A1 (by decide)).pad (pad_rep [] (.int (0 : Int32)) 25)
  have s_b1 : h0.size ≤ b1 := Nat.le_trans (Nat.le_refl _) (Nat.le_of_eq g1.symm)
  have z1 : h0.size ≤ h1.size := Nat.le_trans (Nat.le_refl _) E1.1
  have FF1 := Facts.ext FF E1
  obtain ⟨c2, r2, q2, S2, M2, H2, G2⟩ := V1
  have i2 : ¬ ((0 : Int32) < 0 ∨ c2.slots.size ≤ ((0 : Int32)).toNatClampNeg) := inb_of S2 ⟨by decide, by decide⟩
  obtain ⟨T3, h3, X3, e3, W3, st3⟩ := stZ X1 hx hZ e1 r2 (j := (0 : Int32)) i2 (g := (mkF m 33 #[.val (.int u0), .val (.int u1), .val (.int u2), .val (.int u3), .val (.ref o4), .val (.ref o5), .unset, .unset] [(.int (0 : Int32)), (.int (0 : Int32)), (.ref b1), (.ref b1)])) rfl rfl (hb hby at_33)
  have V3 : Arv Z h3 b1 k1 .boolean (25 : Int32) [(.int (0 : Int32)), (.int (0 : Int32)), (.int (0 : Int32)), (.int (0 : Int32)), (.int (0 : Int32)), (.int (0 : Int32)), (.int (0 : Int32)), (.int (0 : Int32)), (.int (0 : Int32)), (.int (0 : Int32)), (.int (0 : Int32)), (.int (0 : Int32)), (.int (0 : Int32)), (.int (0 : Int32)), (.int (0 : Int32)), (.int (0 : Int32)), (.int (0 : Int32)), (.int (0 : Int32)), (.int (0 : Int32)), (.int (0 : Int32)), (.int (0 : Int32)), (.int (0 : Int32)), (.int (0 : Int32)), (.int (0 : Int32)), (.int (0 : Int32))] (.int (0 : Int32)) := Arv.set r2 q2 S2 M2 H2 G2 (fits_nar_bool _) W3 0 rfl (Nat.le_of_ble_eq_true rfl)
  have z3 : h0.size ≤ h3.size := Nat.le_trans z1 (Nat.le_of_eq W3.size.symm)
  have FF3 := Facts.wr FF FF1 W3 s_b1
  have N3 := Fr.snoc X3 N0 (Nat.le_trans Z0 s_b1)
  obtain ⟨c4, r4, q4, S4, M4, H4, G4⟩ := V3
  have i4 : ¬ ((1 : Int32) < 0 ∨ c4.slots.size ≤ ((1 : Int32)).toNatClampNeg) := inb_of S4 ⟨by decide, by decide⟩
  obtain ⟨T5, h5, X5, e5, W5, st5⟩ := stZ X3 hx hZ e3 r4 (j := (1 : Int32)) i4 (g := (mkF m 37 #[.val (.int u0), .val (.int u1), .val (.int u2), .val (.int u3), .val (.ref o4), .val (.ref o5), .unset, .unset] [(.int (1 : Int32)), (.int (1 : Int32)), (.ref b1), (.ref b1)])) rfl rfl (hb hby at_37)
  have V5 : Arv Z h5 b1 k1 .boolean (25 : Int32) [(.int (0 : Int32)), (.int (1 : Int32)), (.int (0 : Int32)), (.int (0 : Int32)), (.int (0 : Int32)), (.int (0 : Int32)), (.int (0 : Int32)), (.int (0 : Int32)), (.int (0 : Int32)), (.int (0 : Int32)), (.int (0 : Int32)), (.int (0 : Int32)), (.int (0 : Int32)), (.int (0 : Int32)), (.int (0 : Int32)), (.int (0 : Int32)), (.int (0 : Int32)), (.int (0 : Int32)), (.int (0 : Int32)), (.int (0 : Int32)), (.int (0 : Int32)), (.int (0 : Int32)), (.int (0 : Int32)), (.int (0 : Int32)), (.int (0 : Int32))] (.int (0 : Int32)) := Arv.set r4 q4 S4 M4 H4 G4 (fits_nar_bool _) W5 1 rfl (Nat.le_of_ble_eq_true rfl)
  have z5 : h0.size ≤ h5.size := Nat.le_trans z3 (Nat.le_of_eq W5.size.symm)
  have FF5 := Facts.wr FF FF3 W5 s_b1
  have N5 := Fr.snoc X5 N3 (Nat.le_trans Z0 s_b1)
  obtain ⟨c6, r6, q6, S6, M6, H6, G6⟩ := V5
  have i6 : ¬ ((2 : Int32) < 0 ∨ c6.slots.size ≤ ((2 : Int32)).toNatClampNeg) := inb_of S6 ⟨by decide, by decide⟩
  obtain ⟨T7, h7, X7, e7, W7, st7⟩ := stZ X5 hx hZ e5 r6 (j := (2 : Int32)) i6 (g := (mkF m 41 #[.val (.int u0), .val (.int u1), .val (.int u2), .val (.int u3), .val (.ref o4), .val (.ref o5), .unset, .unset] [(.int (1 : Int32)), (.int (2 : Int32)), (.ref b1), (.ref b1)])) rfl rfl (hb hby at_41)
  have V7 : Arv Z h7 b1 k1 .boolean (25 : Int32) [(.int (0 : Int32)), (.int (1 : Int32)), (.int (1 : Int32)), (.int (0 : Int32)), (.int (0 : Int32)), (.int (0 : Int32)), (.int (0 : Int32)), (.int (0 : Int32)), (.int (0 : Int32)), (.int (0 : Int32)), (.int (0 : Int32)), (.int (0 : Int32)), (.int (0 : Int32)), (.int (0 : Int32)), (.int (0 : Int32)), (.int (0 : Int32)), (.int (0 : Int32)), (.int (0 : Int32)), (.int (0 : Int32)), (.int (0 : Int32)), (.int (0 : Int32)), (.int (0 : Int32)), (.int (0 : Int32)), (.int (0 : Int32)), (.int (0 : Int32))] (.int (0 : Int32)) := Arv.set r6 q6 S6 M6 H6 G6 (fits_nar_bool _) W7 2 rfl (Nat.le_of_ble_eq_true rfl)
  have z7 : h0.size ≤ h7.size := Nat.le_trans z5 (Nat.le_of_eq W7.size.symm)
  have FF7 := Facts.wr FF FF5 W7 s_b1
  have N7 := Fr.snoc X7 N5 (Nat.le_trans Z0 s_b1)
  obtain ⟨c8, r8, q8, S8, M8, H8, G8⟩ := V7
  have i8 : ¬ ((3 : Int32) < 0 ∨ c8.slots.size ≤ ((3 : Int32)).toNatClampNeg) := inb_of S8 ⟨by decide, by decide⟩
  obtain ⟨T9, h9, X9, e9, W9, st9⟩ := stZ X7 hx hZ e7 r8 (j := (3 : Int32)) i8 (g := (mkF m 45 #[.val (.int u0), .val (.int u1), .val (.int u2), .val (.int u3), .val (.ref o4), .val (.ref o5), .unset, .unset] [(.int (0 : Int32)), (.int (3 : Int32)), (.ref b1), (.ref b1)])) rfl rfl (hb hby at_45)
  have V9 : Arv Z h9 b1 k1 .boolean (25 : Int32) [(.int (0 : Int32)), (.int (1 : Int32)), (.int (1 : Int32)), (.int (0 : Int32)), (.int (0 : Int32)), (.int (0 : Int32)), (.int (0 : Int32)), (.int (0 : Int32)), (.int (0 : Int32)), (.int (0 : Int32)), (.int (0 : Int32)), (.int (0 : Int32)), (.int (0 : Int32)), (.int (0 : Int32)), (.int (0 : Int32)), (.int (0 : Int32)), (.int (0 : Int32)), (.int (0 : Int32)), (.int (0 : Int32)), (.int (0 : Int32)), (.int (0 : Int32)), (.int (0 : Int32)), (.int (0 : Int32)), (.int (0 : Int32)), (.int (0 : Int32))] (.int (0 : Int32)) := Arv.set r8 q8 S8 M8 H8 G8 (fits_nar_bool _) W9 3 rfl (Nat.le_of_ble_eq_true rfl)
  have z9 : h0.size ≤ h9.size := Nat.le_trans z7 (Nat.le_of_eq W9.size.symm)
  have FF9 := Facts.wr FF FF7 W9 s_b1
  have N9 := Fr.snoc X9 N7 (Nat.le_trans Z0 s_b1)
  obtain ⟨c10, r10, q10, S10, M10, H10, G10⟩ := V9
  have i10 : ¬ ((4 : Int32) < 0 ∨ c10.slots.size ≤ ((4 : Int32)).toNatClampNeg) := inb_of S10 ⟨by decide, by decide⟩
  obtain ⟨T11, h11, X11, e11, W11, st11⟩ := stZ X9 hx hZ e9 r10 (j := (4 : Int32)) i10 (g := (mkF m 49 #[.val (.int u0), .val (.int u1), .val (.int u2), .val (.int u3), .val (.ref o4), .val (.ref o5), .unset, .unset] [(.int (0 : Int32)), (.int (4 : Int32)), (.ref b1), (.ref b1)])) rfl rfl (hb hby at_49)
  have V11 : Arv Z h11 b1 k1 .boolean (25 : Int32) [(.int (0 : Int32)), (.int (1 : Int32)), (.int (1 : Int32)), (.int (0 : Int32)), (.int (0 : Int32)), (.int (0 : Int32)), (.int (0 : Int32)), (.int (0 : Int32)), (.int (0 : Int32)), (.int (0 : Int32)), (.int (0 : Int32)), (.int (0 : Int32)), (.int (0 : Int32)), (.int (0 : Int32)), (.int (0 : Int32)), (.int (0 : Int32)), (.int (0 : Int32)), (.int (0 : Int32)), (.int (0 : Int32)), (.int (0 : Int32)), (.int (0 : Int32)), (.int (0 : Int32)), (.int (0 : Int32)), (.int (0 : Int32)), (.int (0 : Int32))] (.int (0 : Int32)) := Arv.set r10 q10 S10 M10 H10 G10 (fits_nar_bool _) W11 4 rfl (Nat.le_of_ble_eq_true rfl)
  have z11 : h0.size ≤ h11.size := Nat.le_trans z9 (Nat.le_of_eq W11.size.symm)
  have FF11 := Facts.wr FF FF9 W11 s_b1
  have N11 := Fr.snoc X11 N9 (Nat.le_trans Z0 s_b1)
  obtain ⟨c12, r12, q12, S12, M12, H12, G12⟩ := V11
  have i12 : ¬ ((5 : Int32) < 0 ∨ c12.slots.size ≤ ((5 : Int32)).toNatClampNeg) := inb_of S12 ⟨by decide, by decide⟩
  obtain ⟨T13, h13, X13, e13, W13, st13⟩ := stZ X11 hx hZ e11 r12 (j := (5 : Int32)) i12 (g := (mkF m 53 #[.val (.int u0), .val (.int u1), .val (.int u2), .val (.int u3), .val (.ref o4), .val (.ref o5), .unset, .unset] [(.int (1 : Int32)), (.int (5 : Int32)), (.ref b1), (.ref b1)])) rfl rfl (hb hby at_53)
  have V13 : Arv Z h13 b1 k1 .boolean (25 : Int32) [(.int (0 : Int32)), (.int (1 : Int32)), (.int (1 : Int32)), (.int (0 : Int32)), (.int (0 : Int32)), (.int (1 : Int32)), (.int (0 : Int32)), (.int (0 : Int32)), (.int (0 : Int32)), (.int (0 : Int32)), (.int (0 : Int32)), (.int (0 : Int32)), (.int (0 : Int32)), (.int (0 : Int32)), (.int (0 : Int32)), (.int (0 : Int32)), (.int (0 : Int32)), (.int (0 : Int32)), (.int (0 : Int32)), (.int (0 : Int32)), (.int (0 : Int32)), (.int (0 : Int32)), (.int (0 : Int32)), (.int (0 : Int32)), (.int (0 : Int32))] (.int (0 : Int32)) := Arv.set r12 q12 S12 M12 H12 G12 (fits_nar_bool _) W13 5 rfl (Nat.le_of_ble_eq_true rfl)
  have z13 : h0.size ≤ h13.size := Nat.le_trans z11 (Nat.le_of_eq W13.size.symm)
  have FF13 := Facts.wr FF FF11 W13 s_b1
  have N13 := Fr.snoc X13 N11 (Nat.le_trans Z0 s_b1)
  obtain ⟨c14, r14, q14, S14, M14, H14, G14⟩ := V13
  have i14 : ¬ ((6 : Int32) < 0 ∨ c14.slots.size ≤ ((6 : Int32)).toNatClampNeg) := inb_of S14 ⟨by decide, by decide⟩
  obtain ⟨T15, h15, X15, e15, W15, st15⟩ := stZ X13 hx hZ e13 r14 (j := (6 : Int32)) i14 (g := (mkF m 58 #[.val (.int u0), .val (.int u1), .val (.int u2), .val (.int u3), .val (.ref o4), .val (.ref o5), .unset, .unset] [(.int (1 : Int32)), (.int (6 : Int32)), (.ref b1), (.ref b1)])) rfl rfl (hb hby at_58)
  have V15 : Arv Z h15 b1 k1 .boolean (25 : Int32) [(.int (0 : Int32)), (.int (1 : Int32)), (.int (1 : Int32)), (.int (0 : Int32)), (.int (0 : Int32)), (.int (1 : Int32)), (.int (1 : Int32)), (.int (0 : Int32)), (.int (0 : Int32)), (.int (0 : Int32)), (.int (0 : Int32)), (.int (0 : Int32)), (.int (0 : Int32)), (.int (0 : Int32)), (.int (0 : Int32)), (.int (0 : Int32)), (.int (0 : Int32)), (.int (0 : Int32)), (.int (0 : Int32)), (.int (0 : Int32)), (.int (0 : Int32)), (.int (0 : Int32)), (.int (0 : Int32)), (.int (0 : Int32)), (.int (0 : Int32))] (.int (0 : Int32)) := Arv.set r14 q14 S14 M14 H14 G14 (fits_nar_bool _) W15 6 rfl (Nat.le_of_ble_eq_true rfl)
  have z15 : h0.size ≤ h15.size := Nat.le_trans z13 (Nat.le_of_eq W15.size.symm)
  have FF15 := Facts.wr FF FF13 W15 s_b1
  have N15 := Fr.snoc X15 N13 (Nat.le_trans Z0 s_b1)
  obtain ⟨c16, r16, q16, S16, M16, H16, G16⟩ := V15
  have i16 : ¬ ((7 : Int32) < 0 ∨ c16.slots.size ≤ ((7 : Int32)).toNatClampNeg) := inb_of S16 ⟨by decide, by decide⟩
  obtain ⟨T17, h17, X17, e17, W17, st17⟩ := stZ X15 hx hZ e15 r16 (j := (7 : Int32)) i16 (g := (mkF m 63 #[.val (.int u0), .val (.int u1), .val (.int u2), .val (.int u3), .val (.ref o4), .val (.ref o5), .unset, .unset] [(.int (1 : Int32)), (.int (7 : Int32)), (.ref b1), (.ref b1)])) rfl rfl (hb hby at_63)
  have V17 : Arv Z h17 b1 k1 .boolean (25 : Int32) [(.int (0 : Int32)), (.int (1 : Int32)), (.int (1 : Int32)), (.int (0 : Int32)), (.int (0 : Int32)), (.int (1 : Int32)), (.int (1 : Int32)), (.int (1 : Int32)), (.int (0 : Int32)), (.int (0 : Int32)), (.int (0 : Int32)), (.int (0 : Int32)), (.int (0 : Int32)), (.int (0 : Int32)), (.int (0 : Int32)), (.int (0 : Int32)), (.int (0 : Int32)), (.int (0 : Int32)), (.int (0 : Int32)), (.int (0 : Int32)), (.int (0 : Int32)), (.int (0 : Int32)), (.int (0 : Int32)), (.int (0 : Int32)), (.int (0 : Int32))] (.int (0 : Int32)) := Arv.set r16 q16 S16 M16 H16 G16 (fits_nar_bool _) W17 7 rfl (Nat.le_of_ble_eq_true rfl)
  have z17 : h0.size ≤ h17.size := Nat.le_trans z15 (Nat.le_of_eq W17.size.symm)
  have FF17 := Facts.wr FF FF15 W17 s_b1
  have N17 := Fr.snoc X17 N15 (Nat.le_trans Z0 s_b1)
  obtain ⟨c18, r18, q18, S18, M18, H18, G18⟩ := V17
  have i18 : ¬ ((8 : Int32) < 0 ∨ c18.slots.size ≤ ((8 : Int32)).toNatClampNeg) := inb_of S18 ⟨by decide, by decide⟩
  obtain ⟨T19, h19, X19, e19, W19, st19⟩ := stZ X17 hx hZ e17 r18 (j := (8 : Int32)) i18 (g := (mkF m 68 #[.val (.int u0), .val (.int u1), .val (.int u2), .val (.int u3), .val (.ref o4), .val (.ref o5), .unset, .unset] [(.int (0 : Int32)), (.int (8 : Int32)), (.ref b1), (.ref b1)])) rfl rfl (hb hby at_68)
  have V19 : Arv Z h19 b1 k1 .boolean (25 : Int32) [(.int (0 : Int32)), (.int (1 : Int32)), (.int (1 : Int32)), (.int (0 : Int32)), (.int (0 : Int32)), (.int (1 : Int32)), (.int (1 : Int32)), (.int (1 : Int32)), (.int (0 : Int32)), (.int (0 : Int32)), (.int (0 : Int32)), (.int (0 : Int32)), (.int (0 : Int32)), (.int (0 : Int32)), (.int (0 : Int32)), (.int (0 : Int32)), (.int (0 : Int32)), (.int (0 : Int32)), (.int (0 : Int32)), (.int (0 : Int32)), (.int (0 : Int32)), (.int (0 : Int32)), (.int (0 : Int32)), (.int (0 : Int32)), (.int (0 : Int32))] (.int (0 : Int32)) := Arv.set r18 q18 S18 M18 H18 G18 (fits_nar_bool _) W19 8 rfl (Nat.le_of_ble_eq_true rfl)
  have z19 : h0.size ≤ h19.size := Nat.le_trans z17 (Nat.le_of_eq W19.size.symm)
  have FF19 := Facts.wr FF FF17 W19 s_b1
  have N19 := Fr.snoc X19 N17 (Nat.le_trans Z0 s_b1)
  obtain ⟨c20, r20, q20, S20, M20, H20, G20⟩ := V19
  have i20 : ¬ ((9 : Int32) < 0 ∨ c20.slots.size ≤ ((9 : Int32)).toNatClampNeg) := inb_of S20 ⟨by decide, by decide⟩
  obtain ⟨T21, h21, X21, e21, W21, st21⟩ := stZ X19 hx hZ e19 r20 (j := (9 : Int32)) i20 (g := (mkF m 73 #[.val (.int u0), .val (.int u1), .val (.int u2), .val (.int u3), .val (.ref o4), .val (.ref o5), .unset, .unset] [(.int (0 : Int32)), (.int (9 : Int32)), (.ref b1), (.ref b1)])) rfl rfl (hb hby at_73)
  have V21 : Arv Z h21 b1 k1 .boolean (25 : Int32) [(.int (0 : Int32)), (.int (1 : Int32)), (.int (1 : Int32)), (.int (0 : Int32)), (.int (0 : Int32)), (.int (1 : Int32)), (.int (1 : Int32)), (.int (1 : Int32)), (.int (0 : Int32)), (.int (0 : Int32)), (.int (0 : Int32)), (.int (0 : Int32)), (.int (0 : Int32)), (.int (0 : Int32)), (.int (0 : Int32)), (.int (0 : Int32)), (.int (0 : Int32)), (.int (0 : Int32)), (.int (0 : Int32)), (.int (0 : Int32)), (.int (0 : Int32)), (.int (0 : Int32)), (.int (0 : Int32)), (.int (0 : Int32)), (.int (0 : Int32))] (.int (0 : Int32)) := Arv.set r20 q20 S20 M20 H20 G20 (fits_nar_bool _) W21 9 rfl (Nat.le_of_ble_eq_true rfl)
  have z21 : h0.size ≤ h21.size := Nat.le_trans z19 (Nat.le_of_eq W21.size.symm)
  have FF21 := Facts.wr FF FF19 W21 s_b1
  have N21 := Fr.snoc X21 N19 (Nat.le_trans Z0 s_b1)
  obtain ⟨c22, r22, q22, S22, M22, H22, G22⟩ := V21
  have i22 : ¬ ((10 : Int32) < 0 ∨ c22.slots.size ≤ ((10 : Int32)).toNatClampNeg) := inb_of S22 ⟨by decide, by decide⟩
  obtain ⟨T23, h23, X23, e23, W23, st23⟩ := stZ X21 hx hZ e21 r22 (j := (10 : Int32)) i22 (g := (mkF m 78 #[.val (.int u0), .val (.int u1), .val (.int u2), .val (.int u3), .val (.ref o4), .val (.ref o5), .unset, .unset] [(.int (1 : Int32)), (.int (10 : Int32)), (.ref b1), (.ref b1)])) rfl rfl (hb hby at_78)
  have V23 : Arv Z h23 b1 k1 .boolean (25 : Int32) [(.int (0 : Int32)), (.int (1 : Int32)), (.int (1 : Int32)), (.int (0 : Int32)), (.int (0 : Int32)), (.int (1 : Int32)), (.int (1 : Int32)), (.int (1 : Int32)), (.int (0 : Int32)), (.int (0 : Int32)), (.int (1 : Int32)), (.int (0 : Int32)), (.int (0 : Int32)), (.int (0 : Int32)), (.int (0 : Int32)), (.int (0 : Int32)), (.int (0 : Int32)), (.int (0 : Int32)), (.int (0 : Int32)), (.int (0 : Int32)), (.int (0 : Int32)), (.int (0 : Int32)), (.int (0 : Int32)), (.int (0 : Int32)), (.int (0 : Int32))] (.int (0 : Int32)) := Arv.set r22 q22 S22 M22 H22 G22 (fits_nar_bool _) W23 10 rfl (Nat.le_of_ble_eq_true rfl)
  have z23 : h0.size ≤ h23.size := Nat.le_trans z21 (Nat.le_of_eq W23.size.symm)
  have FF23 := Facts.wr FF FF21 W23 s_b1
  have N23 := Fr.snoc X23 N21 (Nat.le_trans Z0 s_b1)
  obtain ⟨c24, r24, q24, S24, M24, H24, G24⟩ := V23
  have i24 : ¬ ((11 : Int32) < 0 ∨ c24.slots.size ≤ ((11 : Int32)).toNatClampNeg) := inb_of S24 ⟨by decide, by decide⟩
  obtain ⟨T25, h25, X25, e25, W25, st25⟩ := stZ X23 hx hZ e23 r24 (j := (11 : Int32)) i24 (g := (mkF m 83 #[.val (.int u0), .val (.int u1), .val (.int u2), .val (.int u3), .val (.ref o4), .val (.ref o5), .unset, .unset] [(.int (1 : Int32)), (.int (11 : Int32)), (.ref b1), (.ref b1)])) rfl rfl (hb hby at_83)
  have V25 : Arv Z h25 b1 k1 .boolean (25 : Int32) [(.int (0 : Int32)), (.int (1 : Int32)), (.int (1 : Int32)), (.int (0 : Int32)), (.int (0 : Int32)), (.int (1 : Int32)), (.int (1 : Int32)), (.int (1 : Int32)), (.int (0 : Int32)), (.int (0 : Int32)), (.int (1 : Int32)), (.int (1 : Int32)), (.int (0 : Int32)), (.int (0 : Int32)), (.int (0 : Int32)), (.int (0 : Int32)), (.int (0 : Int32)), (.int (0 : Int32)), (.int (0 : Int32)), (.int (0 : Int32)), (.int (0 : Int32)), (.int (0 : Int32)), (.int (0 : Int32)), (.int (0 : Int32)), (.int (0 : Int32))] (.int (0 : Int32)) := Arv.set r24 q24 S24 M24 H24 G24 (fits_nar_bool _) W25 11 rfl (Nat.le_of_ble_eq_true rfl)
  have z25 : h0.size ≤ h25.size := Nat.le_trans z23 (Nat.le_of_eq W25.size.symm)
  have FF25 := Facts.wr FF FF23 W25 s_b1
  have N25 := Fr.snoc X25 N23 (Nat.le_trans Z0 s_b1)
  obtain ⟨c26, r26, q26, S26, M26, H26, G26⟩ := V25
  have i26 : ¬ ((12 : Int32) < 0 ∨ c26.slots.size ≤ ((12 : Int32)).toNatClampNeg) := inb_of S26 ⟨by decide, by decide⟩
  obtain ⟨T27, h27, X27, e27, W27, st27⟩ := stZ X25 hx hZ e25 r26 (j := (12 : Int32)) i26 (g := (mkF m 88 #[.val (.int u0), .val (.int u1), .val (.int u2), .val (.int u3), .val (.ref o4), .val (.ref o5), .unset, .unset] [(.int (0 : Int32)), (.int (12 : Int32)), (.ref b1), (.ref b1)])) rfl rfl (hb hby at_88)
  have V27 : Arv Z h27 b1 k1 .boolean (25 : Int32) [(.int (0 : Int32)), (.int (1 : Int32)), (.int (1 : Int32)), (.int (0 : Int32)), (.int (0 : Int32)), (.int (1 : Int32)), (.int (1 : Int32)), (.int (1 : Int32)), (.int (0 : Int32)), (.int (0 : Int32)), (.int (1 : Int32)), (.int (1 : Int32)), (.int (0 : Int32)), (.int (0 : Int32)), (.int (0 : Int32)), (.int (0 : Int32)), (.int (0 : Int32)), (.int (0 : Int32)), (.int (0 : Int32)), (.int (0 : Int32)), (.int (0 : Int32)), (.int (0 : Int32)), (.int (0 : Int32)), (.int (0 : Int32)), (.int (0 : Int32))] (.int (0 : Int32)) := Arv.set r26 q26 S26 M26 H26 G26 (fits_nar_bool _) W27 12 rfl (Nat.le_of_ble_eq_true rfl)
  have z27 : h0.size ≤ h27.size := Nat.le_trans z25 (Nat.le_of_eq W27.size.symm)
  have FF27 := Facts.wr FF FF25 W27 s_b1
  have N27 := Fr.snoc X27 N25 (Nat.le_trans Z0 s_b1)
  obtain ⟨c28, r28, q28, S28, M28, H28, G28⟩ := V27
  have i28 : ¬ ((13 : Int32) < 0 ∨ c28.slots.size ≤ ((13 : Int32)).toNatClampNeg) := inb_of S28 ⟨by decide, by decide⟩
  obtain ⟨T29, h29, X29, e29, W29, st29⟩ := stZ X27 hx hZ e27 r28 (j := (13 : Int32)) i28 (g := (mkF m 93 #[.val (.int u0), .val (.int u1), .val (.int u2), .val (.int u3), .val (.ref o4), .val (.ref o5), .unset, .unset] [(.int (0 : Int32)), (.int (13 : Int32)), (.ref b1), (.ref b1)])) rfl rfl (hb hby at_93)
  have V29 : Arv Z h29 b1 k1 .boolean (25 : Int32) [(.int (0 : Int32)), (.int (1 : Int32)), (.int (1 : Int32)), (.int (0 : Int32)), (.int (0 : Int32)), (.int (1 : Int32)), (.int (1 : Int32)), (.int (1 : Int32)), (.int (0 : Int32)), (.int (0 : Int32)), (.int (1 : Int32)), (.int (1 : Int32)), (.int (0 : Int32)), (.int (0 : Int32)), (.int (0 : Int32)), (.int (0 : Int32)), (.int (0 : Int32)), (.int (0 : Int32)), (.int (0 : Int32)), (.int (0 : Int32)), (.int (0 : Int32)), (.int (0 : Int32)), (.int (0 : Int32)), (.int (0 : Int32)), (.int (0 : Int32))] (.int (0 : Int32)) := Arv.set r28 q28 S28 M28 H28 G28 (fits_nar_bool _) W29 13 rfl (Nat.le_of_ble_eq_true rfl)
  have z29 : h0.size ≤ h29.size := Nat.le_trans z27 (Nat.le_of_eq W29.size.symm)
  have FF29 := Facts.wr FF FF27 W29 s_b1
  have N29 := Fr.snoc X29 N27 (Nat.le_trans Z0 s_b1)
  obtain ⟨c30, r30, q30, S30, M30, H30, G30⟩ := V29
  have i30 : ¬ ((14 : Int32) < 0 ∨ c30.slots.size ≤ ((14 : Int32)).toNatClampNeg) := inb_of S30 ⟨by decide, by decide⟩
  obtain ⟨T31, h31, X31, e31, W31, st31⟩ := stZ X29 hx hZ e29 r30 (j := (14 : Int32)) i30 (g := (mkF m 98 #[.val (.int u0), .val (.int u1), .val (.int u2), .val (.int u3), .val (.ref o4), .val (.ref o5), .unset, .unset] [(.int (0 : Int32)), (.int (14 : Int32)), (.ref b1), (.ref b1)])) rfl rfl (hb hby at_98)
  have V31 : Arv Z h31 b1 k1 .boolean (25 : Int32) [(.int (0 : Int32)), (.int (1 : Int32)), (.int (1 : Int32)), (.int (0 : Int32)), (.int (0 : Int32)), (.int (1 : Int32)), (.int (1 : Int32)), (.int (1 : Int32)), (.int (0 : Int32)), (.int (0 : Int32)), (.int (1 : Int32)), (.int (1 : Int32)), (.int (0 : Int32)), (.int (0 : Int32)), (.int (0 : Int32)), (.int (0 : Int32)), (.int (0 : Int32)), (.int (0 : Int32)), (.int (0 : Int32)), (.int (0 : Int32)), (.int (0 : Int32)), (.int (0 : Int32)), (.int (0 : Int32)), (.int (0 : Int32)), (.int (0 : Int32))] (.int (0 : Int32)) := Arv.set r30 q30 S30 M30 H30 G30 (fits_nar_bool _) W31 14 rfl (Nat.le_of_ble_eq_true rfl)
  have z31 : h0.size ≤ h31.size := Nat.le_trans z29 (Nat.le_of_eq W31.size.symm)
  have FF31 := Facts.wr FF FF29 W31 s_b1
  have N31 := Fr.snoc X31 N29 (Nat.le_trans Z0 s_b1)
  obtain ⟨c32, r32, q32, S32, M32, H32, G32⟩ := V31
  have i32 : ¬ ((15 : Int32) < 0 ∨ c32.slots.size ≤ ((15 : Int32)).toNatClampNeg) := inb_of S32 ⟨by decide, by decide⟩
  obtain ⟨T33, h33, X33, e33, W33, st33⟩ := stZ X31 hx hZ e31 r32 (j := (15 : Int32)) i32 (g := (mkF m 103 #[.val (.int u0), .val (.int u1), .val (.int u2), .val (.int u3), .val (.ref o4), .val (.ref o5), .unset, .unset] [(.int (0 : Int32)), (.int (15 : Int32)), (.ref b1), (.ref b1)])) rfl rfl (hb hby at_103)
  have V33 : Arv Z h33 b1 k1 .boolean (25 : Int32) [(.int (0 : Int32)), (.int (1 : Int32)), (.int (1 : Int32)), (.int (0 : Int32)), (.int (0 : Int32)), (.int (1 : Int32)), (.int (1 : Int32)), (.int (1 : Int32)), (.int (0 : Int32)), (.int (0 : Int32)), (.int (1 : Int32)), (.int (1 : Int32)), (.int (0 : Int32)), (.int (0 : Int32)), (.int (0 : Int32)), (.int (0 : Int32)), (.int (0 : Int32)), (.int (0 : Int32)), (.int (0 : Int32)), (.int (0 : Int32)), (.int (0 : Int32)), (.int (0 : Int32)), (.int (0 : Int32)), (.int (0 : Int32)), (.int (0 : Int32))] (.int (0 : Int32)) := Arv.set r32 q32 S32 M32 H32 G32 (fits_nar_bool _) W33 15 rfl (Nat.le_of_ble_eq_true rfl)
  have z33 : h0.size ≤ h33.size := Nat.le_trans z31 (Nat.le_of_eq W33.size.symm)
  have FF33 := Facts.wr FF FF31 W33 s_b1
  have N33 := Fr.snoc X33 N31 (Nat.le_trans Z0 s_b1)
  obtain ⟨c34, r34, q34, S34, M34, H34, G34⟩ := V33
  have i34 : ¬ ((16 : Int32) < 0 ∨ c34.slots.size ≤ ((16 : Int32)).toNatClampNeg) := inb_of S34 ⟨by decide, by decide⟩
  obtain ⟨T35, h35, X35, e35, W35, st35⟩ := stZ X33 hx hZ e33 r34 (j := (16 : Int32)) i34 (g := (mkF m 108 #[.val (.int u0), .val (.int u1), .val (.int u2), .val (.int u3), .val (.ref o4), .val (.ref o5), .unset, .unset] [(.int (0 : Int32)), (.int (16 : Int32)), (.ref b1), (.ref b1)])) rfl rfl (hb hby at_108)
  have V35 : Arv Z h35 b1 k1 .boolean (25 : Int32) [(.int (0 : Int32)), (.int (1 : Int32)), (.int (1 : Int32)), (.int (0 : Int32)), (.int (0 : Int32)), (.int (1 : Int32)), (.int (1 : Int32)), (.int (1 : Int32)), (.int (0 : Int32)), (.int (0 : Int32)), (.int (1 : Int32)), (.int (1 : Int32)), (.int (0 : Int32)), (.int (0 : Int32)), (.int (0 : Int32)), (.int (0 : Int32)), (.int (0 : Int32)), (.int (0 : Int32)), (.int (0 : Int32)), (.int (0 : Int32)), (.int (0 : Int32)), (.int (0 : Int32)), (.int (0 : Int32)), (.int (0 : Int32)), (.int (0 : Int32))] (.int (0 : Int32)) := Arv.set r34 q34 S34 M34 H34 G34 (fits_nar_bool _) W35 16 rfl (Nat.le_of_ble_eq_true rfl)
  have z35 : h0.size ≤ h35.size := Nat.le_trans z33 (Nat.le_of_eq W35.size.symm)
  have FF35 := Facts.wr FF FF33 W35 s_b1
  have N35 := Fr.snoc X35 N33 (Nat.le_trans Z0 s_b1)
  obtain ⟨c36, r36, q36, S36, M36, H36, G36⟩ := V35
  have i36 : ¬ ((17 : Int32) < 0 ∨ c36.slots.size ≤ ((17 : Int32)).toNatClampNeg) := inb_of S36 ⟨by decide, by decide⟩
  obtain ⟨T37, h37, X37, e37, W37, st37⟩ := stZ X35 hx hZ e35 r36 (j := (17 : Int32)) i36 (g := (mkF m 113 #[.val (.int u0), .val (.int u1), .val (.int u2), .val (.int u3), .val (.ref o4), .val (.ref o5), .unset, .unset] [(.int (0 : Int32)), (.int (17 : Int32)), (.ref b1), (.ref b1)])) rfl rfl (hb hby at_113)
  have V37 : Arv Z h37 b1 k1 .boolean (25 : Int32) [(.int (0 : Int32)), (.int (1 : Int32)), (.int (1 : Int32)), (.int (0 : Int32)), (.int (0 : Int32)), (.int (1 : Int32)), (.int (1 : Int32)), (.int (1 : Int32)), (.int (0 : Int32)), (.int (0 : Int32)), (.int (1 : Int32)), (.int (1 : Int32)), (.int (0 : Int32)), (.int (0 : Int32)), (.int (0 : Int32)), (.int (0 : Int32)), (.int (0 : Int32)), (.int (0 : Int32)), (.int (0 : Int32)), (.int (0 : Int32)), (.int (0 : Int32)), (.int (0 : Int32)), (.int (0 : Int32)), (.int (0 : Int32)), (.int (0 : Int32))] (.int (0 : Int32)) := Arv.set r36 q36 S36 M36 H36 G36 (fits_nar_bool _) W37 17 rfl (Nat.le_of_ble_eq_true rfl)
  have z37 : h0.size ≤ h37.size := Nat.le_trans z35 (Nat.le_of_eq W37.size.symm)
  have FF37 := Facts.wr FF FF35 W37 s_b1
  have N37 := Fr.snoc X37 N35 (Nat.le_trans Z0 s_b1)
  obtain ⟨c38, r38, q38, S38, M38, H38, G38⟩ := V37
  have i38 : ¬ ((18 : Int32) < 0 ∨ c38.slots.size ≤ ((18 : Int32)).toNatClampNeg) := inb_of S38 ⟨by decide, by decide⟩
  obtain ⟨T39, h39, X39, e39, W39, st39⟩ := stZ X37 hx hZ e37 r38 (j := (18 : Int32)) i38 (g := (mkF m 118 #[.val (.int u0), .val (.int u1), .val (.int u2), .val (.int u3), .val (.ref o4), .val (.ref o5), .unset, .unset] [(.int (0 : Int32)), (.int (18 : Int32)), (.ref b1), (.ref b1)])) rfl rfl (hb hby at_118)
  have V39 : Arv Z h39 b1 k1 .boolean (25 : Int32) [(.int (0 : Int32)), (.int (1 : Int32)), (.int (1 : Int32)), (.int (0 : Int32)), (.int (0 : Int32)), (.int (1 : Int32)), (.int (1 : Int32)), (.int (1 : Int32)), (.int (0 : Int32)), (.int (0 : Int32)), (.int (1 : Int32)), (.int (1 : Int32)), (.int (0 : Int32)), (.int (0 : Int32)), (.int (0 : Int32)), (.int (0 : Int32)), (.int (0 : Int32)), (.int (0 : Int32)), (.int (0 : Int32)), (.int (0 : Int32)), (.int (0 : Int32)), (.int (0 : Int32)), (.int (0 : Int32)), (.int (0 : Int32)), (.int (0 : Int32))] (.int (0 : Int32)) := Arv.set r38 q38 S38 M38 H38 G38 (fits_nar_bool _) W39 18 rfl (Nat.le_of_ble_eq_true rfl)
  have z39 : h0.size ≤ h39.size := Nat.le_trans z37 (Nat.le_of_eq W39.size.symm)
  have FF39 := Facts.wr FF FF37 W39 s_b1
  have N39 := Fr.snoc X39 N37 (Nat.le_trans Z0 s_b1)
  obtain ⟨c40, r40, q40, S40, M40, H40, G40⟩ := V39
  have i40 : ¬ ((19 : Int32) < 0 ∨ c40.slots.size ≤ ((19 : Int32)).toNatClampNeg) := inb_of S40 ⟨by decide, by decide⟩
  obtain ⟨T41, h41, X41, e41, W41, st41⟩ := stZ X39 hx hZ e39 r40 (j := (19 : Int32)) i40 (g := (mkF m 123 #[.val (.int u0), .val (.int u1), .val (.int u2), .val (.int u3), .val (.ref o4), .val (.ref o5), .unset, .unset] [(.int (0 : Int32)), (.int (19 : Int32)), (.ref b1), (.ref b1)])) rfl rfl (hb hby at_123)
  have V41 : Arv Z h41 b1 k1 .boolean (25 : Int32) [(.int (0 : Int32)), (.int (1 : Int32)), (.int (1 : Int32)), (.int (0 : Int32)), (.int (0 : Int32)), (.int (1 : Int32)), (.int (1 : Int32)), (.int (1 : Int32)), (.int (0 : Int32)), (.int (0 : Int32)), (.int (1 : Int32)), (.int (1 : Int32)), (.int (0 : Int32)), (.int (0 : Int32)), (.int (0 : Int32)), (.int (0 : Int32)), (.int (0 : Int32)), (.int (0 : Int32)), (.int (0 : Int32)), (.int (0 : Int32)), (.int (0 : Int32)), (.int (0 : Int32)), (.int (0 : Int32)), (.int (0 : Int32)), (.int (0 : Int32))] (.int (0 : Int32)) := Arv.set r40 q40 S40 M40 H40 G40 (fits_nar_bool _) W41 19 rfl (Nat.le_of_ble_eq_true rfl)
  have z41 : h0.size ≤ h41.size := Nat.le_trans z39 (Nat.le_of_eq W41.size.symm)
  have FF41 := Facts.wr FF FF39 W41 s_b1
  have N41 := Fr.snoc X41 N39 (Nat.le_trans Z0 s_b1)
  obtain ⟨c42, r42, q42, S42, M42, H42, G42⟩ := V41
  have i42 : ¬ ((20 : Int32) < 0 ∨ c42.slots.size ≤ ((20 : Int32)).toNatClampNeg) := inb_of S42 ⟨by decide, by decide⟩
  obtain ⟨T43, h43, X43, e43, W43, st43⟩ := stZ X41 hx hZ e41 r42 (j := (20 : Int32)) i42 (g := (mkF m 128 #[.val (.int u0), .val (.int u1), .val (.int u2), .val (.int u3), .val (.ref o4), .val (.ref o5), .unset, .unset] [(.int (0 : Int32)), (.int (20 : Int32)), (.ref b1), (.ref b1)])) rfl rfl (hb hby at_128)
  have V43 : Arv Z h43 b1 k1 .boolean (25 : Int32) [(.int (0 : Int32)), (.int (1 : Int32)), (.int (1 : Int32)), (.int (0 : Int32)), (.int (0 : Int32)), (.int (1 : Int32)), (.int (1 : Int32)), (.int (1 : Int32)), (.int (0 : Int32)), (.int (0 : Int32)), (.int (1 : Int32)), (.int (1 : Int32)), (.int (0 : Int32)), (.int (0 : Int32)), (.int (0 : Int32)), (.int (0 : Int32)), (.int (0 : Int32)), (.int (0 : Int32)), (.int (0 : Int32)), (.int (0 : Int32)), (.int (0 : Int32)), (.int (0 : Int32)), (.int (0 : Int32)), (.int (0 : Int32)), (.int (0 : Int32))] (.int (0 : Int32)) := Arv.set r42 q42 S42 M42 H42 G42 (fits_nar_bool _) W43 20 rfl (Nat.le_of_ble_eq_true rfl)
  have z43 : h0.size ≤ h43.size := Nat.le_trans z41 (Nat.le_of_eq W43.size.symm)
  have FF43 := Facts.wr FF FF41 W43 s_b1
  have N43 := Fr.snoc X43 N41 (Nat.le_trans Z0 s_b1)
  obtain ⟨c44, r44, q44, S44, M44, H44, G44⟩ := V43
  have i44 : ¬ ((21 : Int32) < 0 ∨ c44.slots.size ≤ ((21 : Int32)).toNatClampNeg) := inb_of S44 ⟨by decide, by decide⟩
  obtain ⟨T45, h45, X45, e45, W45, st45⟩ := stZ X43 hx hZ e43 r44 (j := (21 : Int32)) i44 (g := (mkF m 133 #[.val (.int u0), .val (.int u1), .val (.int u2), .val (.int u3), .val (.ref o4), .val (.ref o5), .unset, .unset] [(.int (0 : Int32)), (.int (21 : Int32)), (.ref b1), (.ref b1)])) rfl rfl (hb hby at_133)
  have V45 : Arv Z h45 b1 k1 .boolean (25 : Int32) [(.int (0 : Int32)), (.int (1 : Int32)), (.int (1 : Int32)), (.int (0 : Int32)), (.int (0 : Int32)), (.int (1 : Int32)), (.int (1 : Int32)), (.int (1 : Int32)), (.int (0 : Int32)), (.int (0 : Int32)), (.int (1 : Int32)), (.int (1 : Int32)), (.int (0 : Int32)), (.int (0 : Int32)), (.int (0 : Int32)), (.int (0 : Int32)), (.int (0 : Int32)), (.int (0 : Int32)), (.int (0 : Int32)), (.int (0 : Int32)), (.int (0 : Int32)), (.int (0 : Int32)), (.int (0 : Int32)), (.int (0 : Int32)), (.int (0 : Int32))] (.int (0 : Int32)) := Arv.set r44 q44 S44 M44 H44 G44 (fits_nar_bool _) W45 21 rfl (Nat.le_of_ble_eq_true rfl)
  have z45 : h0.size ≤ h45.size := Nat.le_trans z43 (Nat.le_of_eq W45.size.symm)
  have FF45 := Facts.wr FF FF43 W45 s_b1
  have N45 := Fr.snoc X45 N43 (Nat.le_trans Z0 s_b1)
  obtain ⟨c46, r46, q46, S46, M46, H46, G46⟩ := V45
  have i46 : ¬ ((22 : Int32) < 0 ∨ c46.slots.size ≤ ((22 : Int32)).toNatClampNeg) := inb_of S46 ⟨by decide, by decide⟩
  obtain ⟨T47, h47, X47, e47, W47, st47⟩ := stZ X45 hx hZ e45 r46 (j := (22 : Int32)) i46 (g := (mkF m 138 #[.val (.int u0), .val (.int u1), .val (.int u2), .val (.int u3), .val (.ref o4), .val (.ref o5), .unset, .unset] [(.int (0 : Int32)), (.int (22 : Int32)), (.ref b1), (.ref b1)])) rfl rfl (hb hby at_138)
  have V47 : Arv Z h47 b1 k1 .boolean (25 : Int32) [(.int (0 : Int32)), (.int (1 : Int32)), (.int (1 : Int32)), (.int (0 : Int32)), (.int (0 : Int32)), (.int (1 : Int32)), (.int (1 : Int32)), (.int (1 : Int32)), (.int (0 : Int32)), (.int (0 : Int32)), (.int (1 : Int32)), (.int (1 : Int32)), (.int (0 : Int32)), (.int (0 : Int32)), (.int (0 : Int32)), (.int (0 : Int32)), (.int (0 : Int32)), (.int (0 : Int32)), (.int (0 : Int32)), (.int (0 : Int32)), (.int (0 : Int32)), (.int (0 : Int32)), (.int (0 : Int32)), (.int (0 : Int32)), (.int (0 : Int32))] (.int (0 : Int32)) := Arv.set r46 q46 S46 M46 H46 G46 (fits_nar_bool _) W47 22 rfl (Nat.le_of_ble_eq_true rfl)
  have z47 : h0.size ≤ h47.size := Nat.le_trans z45 (Nat.le_of_eq W47.size.symm)
  have FF47 := Facts.wr FF FF45 W47 s_b1
  have N47 := Fr.snoc X47 N45 (Nat.le_trans Z0 s_b1)
  obtain ⟨c48, r48, q48, S48, M48, H48, G48⟩ := V47
  have i48 : ¬ ((23 : Int32) < 0 ∨ c48.slots.size ≤ ((23 : Int32)).toNatClampNeg) := inb_of S48 ⟨by decide, by decide⟩
  obtain ⟨T49, h49, X49, e49, W49, st49⟩ := stZ X47 hx hZ e47 r48 (j := (23 : Int32)) i48 (g := (mkF m 143 #[.val (.int u0), .val (.int u1), .val (.int u2), .val (.int u3), .val (.ref o4), .val (.ref o5), .unset, .unset] [(.int (0 : Int32)), (.int (23 : Int32)), (.ref b1), (.ref b1)])) rfl rfl (hb hby at_143)
  have V49 : Arv Z h49 b1 k1 .boolean (25 : Int32) [(.int (0 : Int32)), (.int (1 : Int32)), (.int (1 : Int32)), (.int (0 : Int32)), (.int (0 : Int32)), (.int (1 : Int32)), (.int (1 : Int32)), (.int (1 : Int32)), (.int (0 : Int32)), (.int (0 : Int32)), (.int (1 : Int32)), (.int (1 : Int32)), (.int (0 : Int32)), (.int (0 : Int32)), (.int (0 : Int32)), (.int (0 : Int32)), (.int (0 : Int32)), (.int (0 : Int32)), (.int (0 : Int32)), (.int (0 : Int32)), (.int (0 : Int32)), (.int (0 : Int32)), (.int (0 : Int32)), (.int (0 : Int32)), (.int (0 : Int32))] (.int (0 : Int32)) := Arv.set r48 q48 S48 M48 H48 G48 (fits_nar_bool _) W49 23 rfl (Nat.le_of_ble_eq_true rfl)
  have z49 : h0.size ≤ h49.size := Nat.le_trans z47 (Nat.le_of_eq W49.size.symm)
  have FF49 := Facts.wr FF FF47 W49 s_b1
  have N49 := Fr.snoc X49 N47 (Nat.le_trans Z0 s_b1)
  obtain ⟨c50, r50, q50, S50, M50, H50, G50⟩ := V49
  have i50 : ¬ ((24 : Int32) < 0 ∨ c50.slots.size ≤ ((24 : Int32)).toNatClampNeg) := inb_of S50 ⟨by decide, by decide⟩
  obtain ⟨T51, h51, X51, e51, W51, st51⟩ := stZ X49 hx hZ e49 r50 (j := (24 : Int32)) i50 (g := (mkF m 148 #[.val (.int u0), .val (.int u1), .val (.int u2), .val (.int u3), .val (.ref o4), .val (.ref o5), .unset, .unset] [(.int (0 : Int32)), (.int (24 : Int32)), (.ref b1), (.ref b1)])) rfl rfl (hb hby at_148)
  have V51 : Arv Z h51 b1 k1 .boolean (25 : Int32) [(.int (0 : Int32)), (.int (1 : Int32)), (.int (1 : Int32)), (.int (0 : Int32)), (.int (0 : Int32)), (.int (1 : Int32)), (.int (1 : Int32)), (.int (1 : Int32)), (.int (0 : Int32)), (.int (0 : Int32)), (.int (1 : Int32)), (.int (1 : Int32)), (.int (0 : Int32)), (.int (0 : Int32)), (.int (0 : Int32)), (.int (0 : Int32)), (.int (0 : Int32)), (.int (0 : Int32)), (.int (0 : Int32)), (.int (0 : Int32)), (.int (0 : Int32)), (.int (0 : Int32)), (.int (0 : Int32)), (.int (0 : Int32)), (.int (0 : Int32))] (.int (0 : Int32)) := Arv.set r50 q50 S50 M50 H50 G50 (fits_nar_bool _) W51 24 rfl (Nat.le_of_ble_eq_true rfl)
  have z51 : h0.size ≤ h51.size := Nat.le_trans z49 (Nat.le_of_eq W51.size.symm)
  have FF51 := Facts.wr FF FF49 W51 s_b1
  have N51 := Fr.snoc X51 N49 (Nat.le_trans Z0 s_b1)
  refine ⟨T51, h51, b1, k1, _, X51, e51, s_b1, z51, N51, FF51, V51, fun target kt => ?_⟩
  show Steps p.tables e below (T0.setTop (mkF m 26 #[.val (.int u0), .val (.int u1), .val (.int u2), .val (.int u3), .val (.ref o4), .val (.ref o5), .unset, .unset] [])) _
  refine XS.bipush X0.here hx rfl (hb hby at_26) ?_
  show Steps p.tables e below (T0.setTop (mkF m 28 #[.val (.int u0), .val (.int u1), .val (.int u2), .val (.int u3), .val (.ref o4), .val (.ref o5), .unset, .unset] [(.int (25 : Int32))])) _
  refine st1 _ ?_
  show Steps p.tables e below (T1.setTop (mkF m 30 #[.val (.int u0), .val (.int u1), .val (.int u2), .val (.int u3), .val (.ref o4), .val (.ref o5), .unset, .unset] [(.ref b1)])) _
  refine XS.dup X1.here hx rfl (hb hby at_30) rfl rfl ?_
  show Steps p.tables e below (T1.setTop (mkF m 31 #[.val (.int u0), .val (.int u1), .val (.int u2), .val (.int u3), .val (.ref o4), .val (.ref o5), .unset, .unset] [(.ref b1), (.ref b1)])) _
  refine XS.iconst X1.here hx rfl (hb hby at_31) ?_
  show Steps p.tables e below (T1.setTop (mkF m 32 #[.val (.int u0), .val (.int u1), .val (.int u2), .val (.int u3), .val (.ref o4), .val (.ref o5), .unset, .unset] [(.int (0 : Int32)), (.ref b1), (.ref b1)])) _
  refine XS.iconst X1.here hx rfl (hb hby at_32) ?_
  show Steps p.tables e below (T1.setTop (mkF m 33 #[.val (.int u0), .val (.int u1), .val (.int u2), .val (.int u3), .val (.ref o4), .val (.ref o5), .unset, .unset] [(.int (0 : Int32)), (.int (0 : Int32)), (.ref b1), (.ref b1)])) _
  refine st3 _ ?_
  show Steps p.tables e below (T3.setTop (mkF m 34 #[.val (.int u0), .val (.int u1), .val (.int u2), .val (.int u3), .val (.ref o4), .val (.ref o5), .unset, .unset] [(.ref b1)])) _
  refine XS.dup X3.here hx rfl (hb hby at_34) rfl rfl ?_
  show Steps p.tables e below (T3.setTop (mkF m 35 #[.val (.int u0), .val (.int u1), .val (.int u2), .val (.int u3), .val (.ref o4), .val (.ref o5), .unset, .unset] [(.ref b1), (.ref b1)])) _
  refine XS.iconst X3.here hx rfl (hb hby at_35) ?_
  show Steps p.tables e below (T3.setTop (mkF m 36 #[.val (.int u0), .val (.int u1), .val (.int u2), .val (.int u3), .val (.ref o4), .val (.ref o5), .unset, .unset] [(.int (1 : Int32)), (.ref b1), (.ref b1)])) _
  refine XS.iconst X3.here hx rfl (hb hby at_36) ?_
  show Steps p.tables e below (T3.setTop (mkF m 37 #[.val (.int u0), .val (.int u1), .val (.int u2), .val (.int u3), .val (.ref o4), .val (.ref o5), .unset, .unset] [(.int (1 : Int32)), (.int (1 : Int32)), (.ref b1), (.ref b1)])) _
  refine st5 _ ?_
  show Steps p.tables e below (T5.setTop (mkF m 38 #[.val (.int u0), .val (.int u1), .val (.int u2), .val (.int u3), .val (.ref o4), .val (.ref o5), .unset, .unset] [(.ref b1)])) _
  refine XS.dup X5.here hx rfl (hb hby at_38) rfl rfl ?_
  show Steps p.tables e below (T5.setTop (mkF m 39 #[.val (.int u0), .val (.int u1), .val (.int u2), .val (.int u3), .val (.ref o4), .val (.ref o5), .unset, .unset] [(.ref b1), (.ref b1)])) _
  refine XS.iconst X5.here hx rfl (hb hby at_39) ?_
  show Steps p.tables e below (T5.setTop (mkF m 40 #[.val (.int u0), .val (.int u1), .val (.int u2), .val (.int u3), .val (.ref o4), .val (.ref o5), .unset, .unset] [(.int (2 : Int32)), (.ref b1), (.ref b1)])) _
  refine XS.iconst X5.here hx rfl (hb hby at_40) ?_
  show Steps p.tables e below (T5.setTop (mkF m 41 #[.val (.int u0), .val (.int u1), .val (.int u2), .val (.int u3), .val (.ref o4), .val (.ref o5), .unset, .unset] [(.int (1 : Int32)), (.int (2 : Int32)), (.ref b1), (.ref b1)])) _
  refine st7 _ ?_
  show Steps p.tables e below (T7.setTop (mkF m 42 #[.val (.int u0), .val (.int u1), .val (.int u2), .val (.int u3), .val (.ref o4), .val (.ref o5), .unset, .unset] [(.ref b1)])) _
  refine XS.dup X7.here hx rfl (hb hby at_42) rfl rfl ?_
  show Steps p.tables e below (T7.setTop (mkF m 43 #[.val (.int u0), .val (.int u1), .val (.int u2), .val (.int u3), .val (.ref o4), .val (.ref o5), .unset, .unset] [(.ref b1), (.ref b1)])) _
  refine XS.iconst X7.here hx rfl (hb hby at_43) ?_
  show Steps p.tables e below (T7.setTop (mkF m 44 #[.val (.int u0), .val (.int u1), .val (.int u2), .val (.int u3), .val (.ref o4), .val (.ref o5), .unset, .unset] [(.int (3 : Int32)), (.ref b1), (.ref b1)])) _
  refine XS.iconst X7.here hx rfl (hb hby at_44) ?_
  show Steps p.tables e below (T7.setTop (mkF m 45 #[.val (.int u0), .val (.int u1), .val (.int u2), .val (.int u3), .val (.ref o4), .val (.ref o5), .unset, .unset] [(.int (0 : Int32)), (.int (3 : Int32)), (.ref b1), (.ref b1)])) _
  refine st9 _ ?_
  show Steps p.tables e below (T9.setTop (mkF m 46 #[.val (.int u0), .val (.int u1), .val (.int u2), .val (.int u3), .val (.ref o4), .val (.ref o5), .unset, .unset] [(.ref b1)])) _
  refine XS.dup X9.here hx rfl (hb hby at_46) rfl rfl ?_
  show Steps p.tables e below (T9.setTop (mkF m 47 #[.val (.int u0), .val (.int u1), .val (.int u2), .val (.int u3), .val (.ref o4), .val (.ref o5), .unset, .unset] [(.ref b1), (.ref b1)])) _
  refine XS.iconst X9.here hx rfl (hb hby at_47) ?_
  show Steps p.tables e below (T9.setTop (mkF m 48 #[.val (.int u0), .val (.int u1), .val (.int u2), .val (.int u3), .val (.ref o4), .val (.ref o5), .unset, .unset] [(.int (4 : Int32)), (.ref b1), (.ref b1)])) _
  refine XS.iconst X9.here hx rfl (hb hby at_48) ?_
  show Steps p.tables e below (T9.setTop (mkF m 49 #[.val (.int u0), .val (.int u1), .val (.int u2), .val (.int u3), .val (.ref o4), .val (.ref o5), .unset, .unset] [(.int (0 : Int32)), (.int (4 : Int32)), (.ref b1), (.ref b1)])) _
  refine st11 _ ?_
  show Steps p.tables e below (T11.setTop (mkF m 50 #[.val (.int u0), .val (.int u1), .val (.int u2), .val (.int u3), .val (.ref o4), .val (.ref o5), .unset, .unset] [(.ref b1)])) _
  refine XS.dup X11.here hx rfl (hb hby at_50) rfl rfl ?_
  show Steps p.tables e below (T11.setTop (mkF m 51 #[.val (.int u0), .val (.int u1), .val (.int u2), .val (.int u3), .val (.ref o4), .val (.ref o5), .unset, .unset] [(.ref b1), (.ref b1)])) _
  refine XS.iconst X11.here hx rfl (hb hby at_51) ?_
  show Steps p.tables e below (T11.setTop (mkF m 52 #[.val (.int u0), .val (.int u1), .val (.int u2), .val (.int u3), .val (.ref o4), .val (.ref o5), .unset, .unset] [(.int (5 : Int32)), (.ref b1), (.ref b1)])) _
  refine XS.iconst X11.here hx rfl (hb hby at_52) ?_
  show Steps p.tables e below (T11.setTop (mkF m 53 #[.val (.int u0), .val (.int u1), .val (.int u2), .val (.int u3), .val (.ref o4), .val (.ref o5), .unset, .unset] [(.int (1 : Int32)), (.int (5 : Int32)), (.ref b1), (.ref b1)])) _
  refine st13 _ ?_
  show Steps p.tables e below (T13.setTop (mkF m 54 #[.val (.int u0), .val (.int u1), .val (.int u2), .val (.int u3), .val (.ref o4), .val (.ref o5), .unset, .unset] [(.ref b1)])) _
  refine XS.dup X13.here hx rfl (hb hby at_54) rfl rfl ?_
  show Steps p.tables e below (T13.setTop (mkF m 55 #[.val (.int u0), .val (.int u1), .val (.int u2), .val (.int u3), .val (.ref o4), .val (.ref o5), .unset, .unset] [(.ref b1), (.ref b1)])) _
  refine XS.bipush X13.here hx rfl (hb hby at_55) ?_
  show Steps p.tables e below (T13.setTop (mkF m 57 #[.val (.int u0), .val (.int u1), .val (.int u2), .val (.int u3), .val (.ref o4), .val (.ref o5), .unset, .unset] [(.int (6 : Int32)), (.ref b1), (.ref b1)])) _
  refine XS.iconst X13.here hx rfl (hb hby at_57) ?_
  show Steps p.tables e below (T13.setTop (mkF m 58 #[.val (.int u0), .val (.int u1), .val (.int u2), .val (.int u3), .val (.ref o4), .val (.ref o5), .unset, .unset] [(.int (1 : Int32)), (.int (6 : Int32)), (.ref b1), (.ref b1)])) _
  refine st15 _ ?_
  show Steps p.tables e below (T15.setTop (mkF m 59 #[.val (.int u0), .val (.int u1), .val (.int u2), .val (.int u3), .val (.ref o4), .val (.ref o5), .unset, .unset] [(.ref b1)])) _
  refine XS.dup X15.here hx rfl (hb hby at_59) rfl rfl ?_
  show Steps p.tables e below (T15.setTop (mkF m 60 #[.val (.int u0), .val (.int u1), .val (.int u2), .val (.int u3), .val (.ref o4), .val (.ref o5), .unset, .unset] [(.ref b1), (.ref b1)])) _
  refine XS.bipush X15.here hx rfl (hb hby at_60) ?_
  show Steps p.tables e below (T15.setTop (mkF m 62 #[.val (.int u0), .val (.int u1), .val (.int u2), .val (.int u3), .val (.ref o4), .val (.ref o5), .unset, .unset] [(.int (7 : Int32)), (.ref b1), (.ref b1)])) _
  refine XS.iconst X15.here hx rfl (hb hby at_62) ?_
  show Steps p.tables e below (T15.setTop (mkF m 63 #[.val (.int u0), .val (.int u1), .val (.int u2), .val (.int u3), .val (.ref o4), .val (.ref o5), .unset, .unset] [(.int (1 : Int32)), (.int (7 : Int32)), (.ref b1), (.ref b1)])) _
  refine st17 _ ?_
  show Steps p.tables e below (T17.setTop (mkF m 64 #[.val (.int u0), .val (.int u1), .val (.int u2), .val (.int u3), .val (.ref o4), .val (.ref o5), .unset, .unset] [(.ref b1)])) _
  refine XS.dup X17.here hx rfl (hb hby at_64) rfl rfl ?_
  show Steps p.tables e below (T17.setTop (mkF m 65 #[.val (.int u0), .val (.int u1), .val (.int u2), .val (.int u3), .val (.ref o4), .val (.ref o5), .unset, .unset] [(.ref b1), (.ref b1)])) _
  refine XS.bipush X17.here hx rfl (hb hby at_65) ?_
  show Steps p.tables e below (T17.setTop (mkF m 67 #[.val (.int u0), .val (.int u1), .val (.int u2), .val (.int u3), .val (.ref o4), .val (.ref o5), .unset, .unset] [(.int (8 : Int32)), (.ref b1), (.ref b1)])) _
  refine XS.iconst X17.here hx rfl (hb hby at_67) ?_
  show Steps p.tables e below (T17.setTop (mkF m 68 #[.val (.int u0), .val (.int u1), .val (.int u2), .val (.int u3), .val (.ref o4), .val (.ref o5), .unset, .unset] [(.int (0 : Int32)), (.int (8 : Int32)), (.ref b1), (.ref b1)])) _
  refine st19 _ ?_
  show Steps p.tables e below (T19.setTop (mkF m 69 #[.val (.int u0), .val (.int u1), .val (.int u2), .val (.int u3), .val (.ref o4), .val (.ref o5), .unset, .unset] [(.ref b1)])) _
  refine XS.dup X19.here hx rfl (hb hby at_69) rfl rfl ?_
  show Steps p.tables e below (T19.setTop (mkF m 70 #[.val (.int u0), .val (.int u1), .val (.int u2), .val (.int u3), .val (.ref o4), .val (.ref o5), .unset, .unset] [(.ref b1), (.ref b1)])) _
  refine XS.bipush X19.here hx rfl (hb hby at_70) ?_
  show Steps p.tables e below (T19.setTop (mkF m 72 #[.val (.int u0), .val (.int u1), .val (.int u2), .val (.int u3), .val (.ref o4), .val (.ref o5), .unset, .unset] [(.int (9 : Int32)), (.ref b1), (.ref b1)])) _
  refine XS.iconst X19.here hx rfl (hb hby at_72) ?_
  show Steps p.tables e below (T19.setTop (mkF m 73 #[.val (.int u0), .val (.int u1), .val (.int u2), .val (.int u3), .val (.ref o4), .val (.ref o5), .unset, .unset] [(.int (0 : Int32)), (.int (9 : Int32)), (.ref b1), (.ref b1)])) _
  refine st21 _ ?_
  show Steps p.tables e below (T21.setTop (mkF m 74 #[.val (.int u0), .val (.int u1), .val (.int u2), .val (.int u3), .val (.ref o4), .val (.ref o5), .unset, .unset] [(.ref b1)])) _
  refine XS.dup X21.here hx rfl (hb hby at_74) rfl rfl ?_
  show Steps p.tables e below (T21.setTop (mkF m 75 #[.val (.int u0), .val (.int u1), .val (.int u2), .val (.int u3), .val (.ref o4), .val (.ref o5), .unset, .unset] [(.ref b1), (.ref b1)])) _
  refine XS.bipush X21.here hx rfl (hb hby at_75) ?_
  show Steps p.tables e below (T21.setTop (mkF m 77 #[.val (.int u0), .val (.int u1), .val (.int u2), .val (.int u3), .val (.ref o4), .val (.ref o5), .unset, .unset] [(.int (10 : Int32)), (.ref b1), (.ref b1)])) _
  refine XS.iconst X21.here hx rfl (hb hby at_77) ?_
  show Steps p.tables e below (T21.setTop (mkF m 78 #[.val (.int u0), .val (.int u1), .val (.int u2), .val (.int u3), .val (.ref o4), .val (.ref o5), .unset, .unset] [(.int (1 : Int32)), (.int (10 : Int32)), (.ref b1), (.ref b1)])) _
  refine st23 _ ?_
  show Steps p.tables e below (T23.setTop (mkF m 79 #[.val (.int u0), .val (.int u1), .val (.int u2), .val (.int u3), .val (.ref o4), .val (.ref o5), .unset, .unset] [(.ref b1)])) _
  refine XS.dup X23.here hx rfl (hb hby at_79) rfl rfl ?_
  show Steps p.tables e below (T23.setTop (mkF m 80 #[.val (.int u0), .val (.int u1), .val (.int u2), .val (.int u3), .val (.ref o4), .val (.ref o5), .unset, .unset] [(.ref b1), (.ref b1)])) _
  refine XS.bipush X23.here hx rfl (hb hby at_80) ?_
  show Steps p.tables e below (T23.setTop (mkF m 82 #[.val (.int u0), .val (.int u1), .val (.int u2), .val (.int u3), .val (.ref o4), .val (.ref o5), .unset, .unset] [(.int (11 : Int32)), (.ref b1), (.ref b1)])) _
  refine XS.iconst X23.here hx rfl (hb hby at_82) ?_
  show Steps p.tables e below (T23.setTop (mkF m 83 #[.val (.int u0), .val (.int u1), .val (.int u2), .val (.int u3), .val (.ref o4), .val (.ref o5), .unset, .unset] [(.int (1 : Int32)), (.int (11 : Int32)), (.ref b1), (.ref b1)])) _
  refine st25 _ ?_
  show Steps p.tables e below (T25.setTop (mkF m 84 #[.val (.int u0), .val (.int u1), .val (.int u2), .val (.int u3), .val (.ref o4), .val (.ref o5), .unset, .unset] [(.ref b1)])) _
  refine XS.dup X25.here hx rfl (hb hby at_84) rfl rfl ?_
  show Steps p.tables e below (T25.setTop (mkF m 85 #[.val (.int u0), .val (.int u1), .val (.int u2), .val (.int u3), .val (.ref o4), .val (.ref o5), .unset, .unset] [(.ref b1), (.ref b1)])) _
  refine XS.bipush X25.here hx rfl (hb hby at_85) ?_
  show Steps p.tables e below (T25.setTop (mkF m 87 #[.val (.int u0), .val (.int u1), .val (.int u2), .val (.int u3), .val (.ref o4), .val (.ref o5), .unset, .unset] [(.int (12 : Int32)), (.ref b1), (.ref b1)])) _
  refine XS.iconst X25.here hx rfl (hb hby at_87) ?_
  show Steps p.tables e below (T25.setTop (mkF m 88 #[.val (.int u0), .val (.int u1), .val (.int u2), .val (.int u3), .val (.ref o4), .val (.ref o5), .unset, .unset] [(.int (0 : Int32)), (.int (12 : Int32)), (.ref b1), (.ref b1)])) _
  refine st27 _ ?_
  show Steps p.tables e below (T27.setTop (mkF m 89 #[.val (.int u0), .val (.int u1), .val (.int u2), .val (.int u3), .val (.ref o4), .val (.ref o5), .unset, .unset] [(.ref b1)])) _
  refine XS.dup X27.here hx rfl (hb hby at_89) rfl rfl ?_
  show Steps p.tables e below (T27.setTop (mkF m 90 #[.val (.int u0), .val (.int u1), .val (.int u2), .val (.int u3), .val (.ref o4), .val (.ref o5), .unset, .unset] [(.ref b1), (.ref b1)])) _
  refine XS.bipush X27.here hx rfl (hb hby at_90) ?_
  show Steps p.tables e below (T27.setTop (mkF m 92 #[.val (.int u0), .val (.int u1), .val (.int u2), .val (.int u3), .val (.ref o4), .val (.ref o5), .unset, .unset] [(.int (13 : Int32)), (.ref b1), (.ref b1)])) _
  refine XS.iconst X27.here hx rfl (hb hby at_92) ?_
  show Steps p.tables e below (T27.setTop (mkF m 93 #[.val (.int u0), .val (.int u1), .val (.int u2), .val (.int u3), .val (.ref o4), .val (.ref o5), .unset, .unset] [(.int (0 : Int32)), (.int (13 : Int32)), (.ref b1), (.ref b1)])) _
  refine st29 _ ?_
  show Steps p.tables e below (T29.setTop (mkF m 94 #[.val (.int u0), .val (.int u1), .val (.int u2), .val (.int u3), .val (.ref o4), .val (.ref o5), .unset, .unset] [(.ref b1)])) _
  refine XS.dup X29.here hx rfl (hb hby at_94) rfl rfl ?_
  show Steps p.tables e below (T29.setTop (mkF m 95 #[.val (.int u0), .val (.int u1), .val (.int u2), .val (.int u3), .val (.ref o4), .val (.ref o5), .unset, .unset] [(.ref b1), (.ref b1)])) _
  refine XS.bipush X29.here hx rfl (hb hby at_95) ?_
  show Steps p.tables e below (T29.setTop (mkF m 97 #[.val (.int u0), .val (.int u1), .val (.int u2), .val (.int u3), .val (.ref o4), .val (.ref o5), .unset, .unset] [(.int (14 : Int32)), (.ref b1), (.ref b1)])) _
  refine XS.iconst X29.here hx rfl (hb hby at_97) ?_
  show Steps p.tables e below (T29.setTop (mkF m 98 #[.val (.int u0), .val (.int u1), .val (.int u2), .val (.int u3), .val (.ref o4), .val (.ref o5), .unset, .unset] [(.int (0 : Int32)), (.int (14 : Int32)), (.ref b1), (.ref b1)])) _
  refine st31 _ ?_
  show Steps p.tables e below (T31.setTop (mkF m 99 #[.val (.int u0), .val (.int u1), .val (.int u2), .val (.int u3), .val (.ref o4), .val (.ref o5), .unset, .unset] [(.ref b1)])) _
  refine XS.dup X31.here hx rfl (hb hby at_99) rfl rfl ?_
  show Steps p.tables e below (T31.setTop (mkF m 100 #[.val (.int u0), .val (.int u1), .val (.int u2), .val (.int u3), .val (.ref o4), .val (.ref o5), .unset, .unset] [(.ref b1), (.ref b1)])) _
  refine XS.bipush X31.here hx rfl (hb hby at_100) ?_
  show Steps p.tables e below (T31.setTop (mkF m 102 #[.val (.int u0), .val (.int u1), .val (.int u2), .val (.int u3), .val (.ref o4), .val (.ref o5), .unset, .unset] [(.int (15 : Int32)), (.ref b1), (.ref b1)])) _
  refine XS.iconst X31.here hx rfl (hb hby at_102) ?_
  show Steps p.tables e below (T31.setTop (mkF m 103 #[.val (.int u0), .val (.int u1), .val (.int u2), .val (.int u3), .val (.ref o4), .val (.ref o5), .unset, .unset] [(.int (0 : Int32)), (.int (15 : Int32)), (.ref b1), (.ref b1)])) _
  refine st33 _ ?_
  show Steps p.tables e below (T33.setTop (mkF m 104 #[.val (.int u0), .val (.int u1), .val (.int u2), .val (.int u3), .val (.ref o4), .val (.ref o5), .unset, .unset] [(.ref b1)])) _
  refine XS.dup X33.here hx rfl (hb hby at_104) rfl rfl ?_
  show Steps p.tables e below (T33.setTop (mkF m 105 #[.val (.int u0), .val (.int u1), .val (.int u2), .val (.int u3), .val (.ref o4), .val (.ref o5), .unset, .unset] [(.ref b1), (.ref b1)])) _
  refine XS.bipush X33.here hx rfl (hb hby at_105) ?_
  show Steps p.tables e below (T33.setTop (mkF m 107 #[.val (.int u0), .val (.int u1), .val (.int u2), .val (.int u3), .val (.ref o4), .val (.ref o5), .unset, .unset] [(.int (16 : Int32)), (.ref b1), (.ref b1)])) _
  refine XS.iconst X33.here hx rfl (hb hby at_107) ?_
  show Steps p.tables e below (T33.setTop (mkF m 108 #[.val (.int u0), .val (.int u1), .val (.int u2), .val (.int u3), .val (.ref o4), .val (.ref o5), .unset, .unset] [(.int (0 : Int32)), (.int (16 : Int32)), (.ref b1), (.ref b1)])) _
  refine st35 _ ?_
  show Steps p.tables e below (T35.setTop (mkF m 109 #[.val (.int u0), .val (.int u1), .val (.int u2), .val (.int u3), .val (.ref o4), .val (.ref o5), .unset, .unset] [(.ref b1)])) _
  refine XS.dup X35.here hx rfl (hb hby at_109) rfl rfl ?_
  show Steps p.tables e below (T35.setTop (mkF m 110 #[.val (.int u0), .val (.int u1), .val (.int u2), .val (.int u3), .val (.ref o4), .val (.ref o5), .unset, .unset] [(.ref b1), (.ref b1)])) _
  refine XS.bipush X35.here hx rfl (hb hby at_110) ?_
  show Steps p.tables e below (T35.setTop (mkF m 112 #[.val (.int u0), .val (.int u1), .val (.int u2), .val (.int u3), .val (.ref o4), .val (.ref o5), .unset, .unset] [(.int (17 : Int32)), (.ref b1), (.ref b1)])) _
  refine XS.iconst X35.here hx rfl (hb hby at_112) ?_
  show Steps p.tables e below (T35.setTop (mkF m 113 #[.val (.int u0), .val (.int u1), .val (.int u2), .val (.int u3), .val (.ref o4), .val (.ref o5), .unset, .unset] [(.int (0 : Int32)), (.int (17 : Int32)), (.ref b1), (.ref b1)])) _
  refine st37 _ ?_
  show Steps p.tables e below (T37.setTop (mkF m 114 #[.val (.int u0), .val (.int u1), .val (.int u2), .val (.int u3), .val (.ref o4), .val (.ref o5), .unset, .unset] [(.ref b1)])) _
  refine XS.dup X37.here hx rfl (hb hby at_114) rfl rfl ?_
  show Steps p.tables e below (T37.setTop (mkF m 115 #[.val (.int u0), .val (.int u1), .val (.int u2), .val (.int u3), .val (.ref o4), .val (.ref o5), .unset, .unset] [(.ref b1), (.ref b1)])) _
  refine XS.bipush X37.here hx rfl (hb hby at_115) ?_
  show Steps p.tables e below (T37.setTop (mkF m 117 #[.val (.int u0), .val (.int u1), .val (.int u2), .val (.int u3), .val (.ref o4), .val (.ref o5), .unset, .unset] [(.int (18 : Int32)), (.ref b1), (.ref b1)])) _
  refine XS.iconst X37.here hx rfl (hb hby at_117) ?_
  show Steps p.tables e below (T37.setTop (mkF m 118 #[.val (.int u0), .val (.int u1), .val (.int u2), .val (.int u3), .val (.ref o4), .val (.ref o5), .unset, .unset] [(.int (0 : Int32)), (.int (18 : Int32)), (.ref b1), (.ref b1)])) _
  refine st39 _ ?_
  show Steps p.tables e below (T39.setTop (mkF m 119 #[.val (.int u0), .val (.int u1), .val (.int u2), .val (.int u3), .val (.ref o4), .val (.ref o5), .unset, .unset] [(.ref b1)])) _
  refine XS.dup X39.here hx rfl (hb hby at_119) rfl rfl ?_
  show Steps p.tables e below (T39.setTop (mkF m 120 #[.val (.int u0), .val (.int u1), .val (.int u2), .val (.int u3), .val (.ref o4), .val (.ref o5), .unset, .unset] [(.ref b1), (.ref b1)])) _
  refine XS.bipush X39.here hx rfl (hb hby at_120) ?_
  show Steps p.tables e below (T39.setTop (mkF m 122 #[.val (.int u0), .val (.int u1), .val (.int u2), .val (.int u3), .val (.ref o4), .val (.ref o5), .unset, .unset] [(.int (19 : Int32)), (.ref b1), (.ref b1)])) _
  refine XS.iconst X39.here hx rfl (hb hby at_122) ?_
  show Steps p.tables e below (T39.setTop (mkF m 123 #[.val (.int u0), .val (.int u1), .val (.int u2), .val (.int u3), .val (.ref o4), .val (.ref o5), .unset, .unset] [(.int (0 : Int32)), (.int (19 : Int32)), (.ref b1), (.ref b1)])) _
  refine st41 _ ?_
  show Steps p.tables e below (T41.setTop (mkF m 124 #[.val (.int u0), .val (.int u1), .val (.int u2), .val (.int u3), .val (.ref o4), .val (.ref o5), .unset, .unset] [(.ref b1)])) _
  refine XS.dup X41.here hx rfl (hb hby at_124) rfl rfl ?_
  show Steps p.tables e below (T41.setTop (mkF m 125 #[.val (.int u0), .val (.int u1), .val (.int u2), .val (.int u3), .val (.ref o4), .val (.ref o5), .unset, .unset] [(.ref b1), (.ref b1)])) _
  refine XS.bipush X41.here hx rfl (hb hby at_125) ?_
  show Steps p.tables e below (T41.setTop (mkF m 127 #[.val (.int u0), .val (.int u1), .val (.int u2), .val (.int u3), .val (.ref o4), .val (.ref o5), .unset, .unset] [(.int (20 : Int32)), (.ref b1), (.ref b1)])) _
  refine XS.iconst X41.here hx rfl (hb hby at_127) ?_
  show Steps p.tables e below (T41.setTop (mkF m 128 #[.val (.int u0), .val (.int u1), .val (.int u2), .val (.int u3), .val (.ref o4), .val (.ref o5), .unset, .unset] [(.int (0 : Int32)), (.int (20 : Int32)), (.ref b1), (.ref b1)])) _
  refine st43 _ ?_
  show Steps p.tables e below (T43.setTop (mkF m 129 #[.val (.int u0), .val (.int u1), .val (.int u2), .val (.int u3), .val (.ref o4), .val (.ref o5), .unset, .unset] [(.ref b1)])) _
  refine XS.dup X43.here hx rfl (hb hby at_129) rfl rfl ?_
  show Steps p.tables e below (T43.setTop (mkF m 130 #[.val (.int u0), .val (.int u1), .val (.int u2), .val (.int u3), .val (.ref o4), .val (.ref o5), .unset, .unset] [(.ref b1), (.ref b1)])) _
  refine XS.bipush X43.here hx rfl (hb hby at_130) ?_
  show Steps p.tables e below (T43.setTop (mkF m 132 #[.val (.int u0), .val (.int u1), .val (.int u2), .val (.int u3), .val (.ref o4), .val (.ref o5), .unset, .unset] [(.int (21 : Int32)), (.ref b1), (.ref b1)])) _
  refine XS.iconst X43.here hx rfl (hb hby at_132) ?_
  show Steps p.tables e below (T43.setTop (mkF m 133 #[.val (.int u0), .val (.int u1), .val (.int u2), .val (.int u3), .val (.ref o4), .val (.ref o5), .unset, .unset] [(.int (0 : Int32)), (.int (21 : Int32)), (.ref b1), (.ref b1)])) _
  refine st45 _ ?_
  show Steps p.tables e below (T45.setTop (mkF m 134 #[.val (.int u0), .val (.int u1), .val (.int u2), .val (.int u3), .val (.ref o4), .val (.ref o5), .unset, .unset] [(.ref b1)])) _
  refine XS.dup X45.here hx rfl (hb hby at_134) rfl rfl ?_
  show Steps p.tables e below (T45.setTop (mkF m 135 #[.val (.int u0), .val (.int u1), .val (.int u2), .val (.int u3), .val (.ref o4), .val (.ref o5), .unset, .unset] [(.ref b1), (.ref b1)])) _
  refine XS.bipush X45.here hx rfl (hb hby at_135) ?_
  show Steps p.tables e below (T45.setTop (mkF m 137 #[.val (.int u0), .val (.int u1), .val (.int u2), .val (.int u3), .val (.ref o4), .val (.ref o5), .unset, .unset] [(.int (22 : Int32)), (.ref b1), (.ref b1)])) _
  refine XS.iconst X45.here hx rfl (hb hby at_137) ?_
  show Steps p.tables e below (T45.setTop (mkF m 138 #[.val (.int u0), .val (.int u1), .val (.int u2), .val (.int u3), .val (.ref o4), .val (.ref o5), .unset, .unset] [(.int (0 : Int32)), (.int (22 : Int32)), (.ref b1), (.ref b1)])) _
  refine st47 _ ?_
  show Steps p.tables e below (T47.setTop (mkF m 139 #[.val (.int u0), .val (.int u1), .val (.int u2), .val (.int u3), .val (.ref o4), .val (.ref o5), .unset, .unset] [(.ref b1)])) _
  refine XS.dup X47.here hx rfl (hb hby at_139) rfl rfl ?_
  show Steps p.tables e below (T47.setTop (mkF m 140 #[.val (.int u0), .val (.int u1), .val (.int u2), .val (.int u3), .val (.ref o4), .val (.ref o5), .unset, .unset] [(.ref b1), (.ref b1)])) _
  refine XS.bipush X47.here hx rfl (hb hby at_140) ?_
  show Steps p.tables e below (T47.setTop (mkF m 142 #[.val (.int u0), .val (.int u1), .val (.int u2), .val (.int u3), .val (.ref o4), .val (.ref o5), .unset, .unset] [(.int (23 : Int32)), (.ref b1), (.ref b1)])) _
  refine XS.iconst X47.here hx rfl (hb hby at_142) ?_
  show Steps p.tables e below (T47.setTop (mkF m 143 #[.val (.int u0), .val (.int u1), .val (.int u2), .val (.int u3), .val (.ref o4), .val (.ref o5), .unset, .unset] [(.int (0 : Int32)), (.int (23 : Int32)), (.ref b1), (.ref b1)])) _
  refine st49 _ ?_
  show Steps p.tables e below (T49.setTop (mkF m 144 #[.val (.int u0), .val (.int u1), .val (.int u2), .val (.int u3), .val (.ref o4), .val (.ref o5), .unset, .unset] [(.ref b1)])) _
  refine XS.dup X49.here hx rfl (hb hby at_144) rfl rfl ?_
  show Steps p.tables e below (T49.setTop (mkF m 145 #[.val (.int u0), .val (.int u1), .val (.int u2), .val (.int u3), .val (.ref o4), .val (.ref o5), .unset, .unset] [(.ref b1), (.ref b1)])) _
  refine XS.bipush X49.here hx rfl (hb hby at_145) ?_
  show Steps p.tables e below (T49.setTop (mkF m 147 #[.val (.int u0), .val (.int u1), .val (.int u2), .val (.int u3), .val (.ref o4), .val (.ref o5), .unset, .unset] [(.int (24 : Int32)), (.ref b1), (.ref b1)])) _
  refine XS.iconst X49.here hx rfl (hb hby at_147) ?_
  show Steps p.tables e below (T49.setTop (mkF m 148 #[.val (.int u0), .val (.int u1), .val (.int u2), .val (.int u3), .val (.ref o4), .val (.ref o5), .unset, .unset] [(.int (0 : Int32)), (.int (24 : Int32)), (.ref b1), (.ref b1)])) _
  refine st51 _ ?_
  show Steps p.tables e below (T51.setTop (mkF m 149 #[.val (.int u0), .val (.int u1), .val (.int u2), .val (.int u3), .val (.ref o4), .val (.ref o5), .unset, .unset] [(.ref b1)])) _
  refine XS.astore X51.here hx rfl (hb hby at_149) rfl rfl (l' := #[.val (.int u0), .val (.int u1), .val (.int u2), .val (.int u3), .val (.ref o4), .val (.ref o5), .val (.ref b1), .unset]) rfl ?_
  exact kt
set_option maxRecDepth 65536 in
set_option maxHeartbeats 40000000 in
theorem rm2_0 (l : Launch) (Z : State) (a0 : Array Value) (hw : ∀ d ∈ tables_1, d.before a0 Z = true) (ws : List Jvm.Cond) (p0 p1 : Int32) (a_READ a_COMMIT a_ABORT a_WRITE a_INCREMENT : Addr) (h0 : Heap) (n0 : Nat) (Z0 : n0 ≤ h0.size) (FF : Facts Z h0 a_READ a_COMMIT a_ABORT a_WRITE a_INCREMENT) :
    MetFree l (⟨"com/example/schedulock/schedulock/schedule/OperationKind", "conflictsWith", "(Lcom/example/schedulock/schedulock/schedule/OperationKind;)Z"⟩ : MethodName) (head1 (Jvm.Cond.code (⟨"com/example/schedulock/schedulock/schedule/OperationKind", "conflictsWith", "(Lcom/example/schedulock/schedulock/schedule/OperationKind;)Z"⟩ : MethodName) prog_31_method_5_code 2 (some .boolean) :: ws) ({ frames := 0, cells := 0, slots := 0, locals := 0 } : Room)) (fun a U => a = #[(.ref a_READ), (.ref a_READ)] ∧ Z.Warmed39 U.vm ∧ U.heap = h0) (fun _ _ _ _ _ => True) (fun _ U o U' => ∃ v L, o = .returned v ∧ own_Q (.int (0 : Int32)) h0 n0 v U'.heap L ∧ FrameEnd U o U' L ({ frames := 0, cells := 0, slots := 0, locals := 0 } : Room).cells ({ frames := 0, cells := 0, slots := 0, locals := 0 } : Room).slots) := by
  refine MetFree.of_bodySF (plainFor_of_name pn_2) hisR ?_
  intro p e s m args below meth c s₁ Bd hml0 hP hK
  obtain ⟨rfl, hZ, hh⟩ := hP
  have hx := Bd.exec
  have hby := Bd.bytes
  have hml : c.maxLocals = 2 := hml0
  have hown : s.vm.findClass "com/example/schedulock/schedulock/schedule/OperationKind" = some m.cls := findClass_of_methodNamed Bd.named
  have X0 : Stand p l e ({ frames := 0, cells := 0, slots := 0, locals := 0 } : Room) s m #[(.ref a_READ), (.ref a_READ)] below meth c s₁ [] 0 0 := Stand.of_body Bd
  have e0 : s₁.heap = h0 := by rw [← hh, Bd.state]; rfl
  have N0 := Fr.nil n0
  have pre0 : ∀ t, Steps p.tables e below (s₁.setTop (mkF m 0 #[.val (.ref a_READ), .val (.ref a_READ)] [])) t → Steps p.tables e below (s₁.setTop (entryFrame m #[(.ref a_READ), (.ref a_READ)] 2)) t := fun t k => castTop (ef_2 m a_READ a_READ) k
  obtain ⟨T1, X1, e1, st1⟩ := getF X0 hx hZ hown (host := "") (Or.inl (hw _ (List.mem_of_getElem? (i := 16) rfl))) Via.refl e0 (fx_F_READ_takesItem FF) (g := (mkF m 1 #[.val (.ref a_READ), .val (.ref a_READ)] [(.ref a_READ)])) rfl rfl (hb hby d2_1)
  obtain ⟨T2, X2, e2, st2⟩ := getF X1 hx hZ hown (host := "") (Or.inl (hw _ (List.mem_of_getElem? (i := 16) rfl))) Via.refl e1 (fx_F_READ_takesItem FF) (g := (mkF m 8 #[.val (.ref a_READ), .val (.ref a_READ)] [(.ref a_READ)])) rfl rfl (hb hby d2_8)
  obtain ⟨T3, X3, e3, st3⟩ := getF X2 hx hZ hown (host := "") (Or.inl (hw _ (List.mem_of_getElem? (i := 22) rfl))) Via.refl e2 (fx_F_READ_commutesWithItself FF) (g := (mkF m 20 #[.val (.ref a_READ), .val (.ref a_READ)] [(.ref a_READ)])) rfl rfl (hb hby d2_20)
  obtain ⟨fs, hr, hrun, hended, hW, hsame⟩ := X3.leave (v := some (.int (0 : Int32))) (fun h => by rw [Bd.returns] at h; cases h)
  refine ⟨_, _, pre0 _ ?_, hrun, hended, _, _, rfl, ?_, ⟨_, rfl⟩, hW, hsame.mono (by decide) (by decide)⟩
  · show Steps p.tables e below (s₁.setTop (mkF m 0 #[.val (.ref a_READ), .val (.ref a_READ)] [])) _
    refine XS.aloadN X0.here hx rfl (hb hby d2_0) rfl rfl ?_
    show Steps p.tables e below (s₁.setTop (mkF m 1 #[.val (.ref a_READ), .val (.ref a_READ)] [(.ref a_READ)])) _
    refine st1 _ ?_
    show Steps p.tables e below (T1.setTop (mkF m 4 #[.val (.ref a_READ), .val (.ref a_READ)] [(.int (1 : Int32))])) _
    refine XS.ifNo X1.here hx rfl (hb hby d2_4) rfl (by decide) ?_
    show Steps p.tables e below (T1.setTop (mkF m 7 #[.val (.ref a_READ), .val (.ref a_READ)] [])) _
    refine XS.aloadN X1.here hx rfl (hb hby d2_7) rfl rfl ?_
    show Steps p.tables e below (T1.setTop (mkF m 8 #[.val (.ref a_READ), .val (.ref a_READ)] [(.ref a_READ)])) _
    refine st2 _ ?_
    show Steps p.tables e below (T2.setTop (mkF m 11 #[.val (.ref a_READ), .val (.ref a_READ)] [(.int (1 : Int32))])) _
    refine XS.ifNo X2.here hx rfl (hb hby d2_11) rfl (by decide) ?_
    show Steps p.tables e below (T2.setTop (mkF m 14 #[.val (.ref a_READ), .val (.ref a_READ)] [])) _
    refine XS.aloadN X2.here hx rfl (hb hby d2_14) rfl rfl ?_
    show Steps p.tables e below (T2.setTop (mkF m 15 #[.val (.ref a_READ), .val (.ref a_READ)] [(.ref a_READ)])) _
    refine XS.aloadN X2.here hx rfl (hb hby d2_15) rfl rfl ?_
    show Steps p.tables e below (T2.setTop (mkF m 16 #[.val (.ref a_READ), .val (.ref a_READ)] [(.ref a_READ), (.ref a_READ)])) _
    refine Jvm.RoadKit.acmp (g := (mkF m 16 #[.val (.ref a_READ), .val (.ref a_READ)] [(.ref a_READ), (.ref a_READ)])) X2 hx rfl rfl rfl (pc0 := 16) (pc' := 19) (same := true) rfl (hb hby d2_16) rfl (decide_eq_true rfl) (by decide) (by decide) ?_
    show Steps p.tables e below (T2.setTop (mkF m 19 #[.val (.ref a_READ), .val (.ref a_READ)] [])) _
    refine XS.aloadN X2.here hx rfl (hb hby d2_19) rfl rfl ?_
    show Steps p.tables e below (T2.setTop (mkF m 20 #[.val (.ref a_READ), .val (.ref a_READ)] [(.ref a_READ)])) _
    refine st3 _ ?_
    show Steps p.tables e below (T3.setTop (mkF m 23 #[.val (.ref a_READ), .val (.ref a_READ)] [(.int (1 : Int32))])) _
    refine XS.ifYes X3.here hx rfl (pc0 := 23) (pc' := 30) rfl (hb hby d2_23) rfl (by decide) (by decide) (by decide) ?_
    show Steps p.tables e below (T3.setTop (mkF m 30 #[.val (.ref a_READ), .val (.ref a_READ)] [])) _
    refine XS.iconst X3.here hx rfl (hb hby d2_30) ?_
    show Steps p.tables e below (T3.setTop (mkF m 31 #[.val (.ref a_READ), .val (.ref a_READ)] [(.int (0 : Int32))])) _
    exact retN X3 hx (t := .boolean) Bd.returns (by simp) (hb hby d2_31) hr
  · show own_Q _ _ _ _ T3.heap _
    exact ⟨rfl, N0, e3⟩
set_option maxRecDepth 65536 in
set_option maxHeartbeats 40000000 in
theorem rm0_0 (l : Launch) (Z : State) (a0 : Array Value) (hw : ∀ d ∈ tables_1, d.before a0 Z = true) (ws : List Jvm.Cond) (p0 p1 : Int32) (a_READ a_COMMIT a_ABORT a_WRITE a_INCREMENT : Addr) (h0 : Heap) (n0 : Nat) (Z0 : n0 ≤ h0.size) (FF : Facts Z h0 a_READ a_COMMIT a_ABORT a_WRITE a_INCREMENT) (hk0 : ((p0 &&& (2147483647 : Int32)) % (5 : Int32)) = (0 : Int32)) (hk1 : ((p1 &&& (2147483647 : Int32)) % (5 : Int32)) = (0 : Int32)) :
    MetFree l x (head1 (Jvm.Cond.code x code maxLocals ret :: ws) room_1) (fun a U => a = #[(.int p0), (.int p1)] ∧ Z.Warmed39 U.vm ∧ U.heap = h0) (fun _ _ _ _ _ => True) (fun _ U o U' => ∃ v L, o = .returned v ∧ (v = some (.int (1 : Int32)) ∧ Fr n0 L) ∧ FrameEnd U o U' L room_1.cells room_1.slots) := by
  refine MetFree.of_bodySF (plainFor_of_name pn_0) hisR ?_
  intro p e s m args below meth c s₁ Bd hml0 hP hK
  obtain ⟨rfl, hZ, hh⟩ := hP
  have hx := Bd.exec
  have hby := Bd.bytes
  have hml : c.maxLocals = 8 := hml0
  have hown : s.vm.findClass "com/example/schedulock/schedulock/schedule/OperationKindConflictsWithPinLaw" = some m.cls := findClass_of_methodNamed Bd.named
  have X0 : Stand p l e room_1 s m #[(.int p0), (.int p1)] below meth c s₁ [] 0 0 := Stand.of_body Bd
  have e0 : s₁.heap = h0 := by rw [← hh, Bd.state]; rfl
  have N0 := Fr.nil n0
  have pre0 : ∀ t, Steps p.tables e below (s₁.setTop (mkF m 0 #[.val (.int p0), .val (.int p1), .unset, .unset, .unset, .unset, .unset, .unset] [])) t → Steps p.tables e below (s₁.setTop (entryFrame m #[(.int p0), (.int p1)] maxLocals)) t := fun t k => castTop (ef_0 m p0 p1) k
  obtain ⟨_, _, ⟨T1, L1, k1, n1⟩, -, X1, ⟨Lc1, hQ1, l1, y1, z1⟩, st1⟩ := Jvm.LawKit.callS X0 hx (y := (⟨"com/example/schedulock/schedulock/schedule/OperationKindConflictsWithPinLaw", "kind", "(I)Lcom/example/schedulock/schedulock/schedule/OperationKind;"⟩ : MethodName)) hown (mvT hZ (hw _ (List.mem_of_getElem? (i := 1) rfl))) (mvT hZ (hw _ (List.mem_of_getElem? (i := 2) rfl))) (mvT hZ (hw _ (List.mem_of_getElem? (i := 3) rfl))) (mvT hZ (hw _ (List.mem_of_getElem? (i := 4) rfl))) (by decide) (backOf (W := 0) (rm1_0 l Z a0 hw [] p0 p1 a_READ a_COMMIT a_ABORT a_WRITE a_INCREMENT h0 n0 (Nat.le_trans Z0 (Nat.le_refl _)) FF) hZ (hw _ (List.mem_of_getElem? (i := 4) rfl)) (hw _ (List.mem_of_getElem? (i := 3) rfl)) (by decide) (by decide)) (g := (mkF m 15 #[.val (.int p0), .val (.int p1), .val (.int (0 : Int32)), .val (.int (0 : Int32)), .unset, .unset, .unset, .unset] [(.int (0 : Int32))])) rfl (by rw [hml]; rfl) (argsL := [(.int (0 : Int32))]) (rest := []) (lenOf pd_0 rfl) rfl (by show 2 * 0 + _ ≤ _; exact Nat.le_of_eq rfl) (hb hby at_15) (fun _ _ => ⟨rfl, e0, (by decide : 0 + 0 ≤ _), (by decide : 0 + 0 ≤ _)⟩)
  dsimp only [Pt.U, Pt.locs, Pt.cells, Pt.slots] at X1 l1 y1 z1 st1 hQ1
  subst l1 y1 z1
  obtain ⟨rfl, N1q, e1⟩ := hQ1
  have N1 := Fr.app N0 N1q
  obtain ⟨_, _, ⟨T2, L2, k2, n2⟩, -, X2, ⟨Lc2, hQ2, l2, y2, z2⟩, st2⟩ := Jvm.LawKit.callS X1 hx (y := (⟨"com/example/schedulock/schedulock/schedule/OperationKindConflictsWithPinLaw", "kind", "(I)Lcom/example/schedulock/schedulock/schedule/OperationKind;"⟩ : MethodName)) hown (mvT hZ (hw _ (List.mem_of_getElem? (i := 1) rfl))) (mvT hZ (hw _ (List.mem_of_getElem? (i := 2) rfl))) (mvT hZ (hw _ (List.mem_of_getElem? (i := 3) rfl))) (mvT hZ (hw _ (List.mem_of_getElem? (i := 4) rfl))) (by decide) (backOf (W := 0) (rm1_0 l Z a0 hw [] p0 p1 a_READ a_COMMIT a_ABORT a_WRITE a_INCREMENT h0 n0 (Nat.le_trans Z0 (Nat.le_refl _)) FF) hZ (hw _ (List.mem_of_getElem? (i := 4) rfl)) (hw _ (List.mem_of_getElem? (i := 3) rfl)) (by decide) (by decide)) (g := (mkF m 21 #[.val (.int p0), .val (.int p1), .val (.int (0 : Int32)), .val (.int (0 : Int32)), .val (.ref a_READ), .unset, .unset, .unset] [(.int (0 : Int32))])) rfl (by rw [hml]; rfl) (argsL := [(.int (0 : Int32))]) (rest := []) (lenOf pd_0 rfl) rfl (by show 2 * 0 + _ ≤ _; exact Nat.le_of_eq rfl) (hb hby at_21) (fun _ _ => ⟨rfl, e1, (by decide : 0 + 0 ≤ _), (by decide : 0 + 0 ≤ _)⟩)
  dsimp only [Pt.U, Pt.locs, Pt.cells, Pt.slots] at X2 l2 y2 z2 st2 hQ2
  subst l2 y2 z2
  obtain ⟨rfl, N2q, e2⟩ := hQ2
  have N2 := Fr.app N1 N2q
  obtain ⟨T3, h3, b3, k3, lc3, X3, e3, s_b3, z3, N3, FF3, V3, st3⟩ := seg_0 (l := l) (Z := Z) hw a_READ a_COMMIT a_ABORT a_WRITE a_INCREMENT p0 p1 (0 : Int32) (0 : Int32) a_READ a_READ X2 hx hZ hby hml hown e2 Z0 N2 FF
  obtain ⟨c4, r4, -, S4, -, H4, -⟩ := V3
  have i4 : ¬ ((0 : Int32) < 0 ∨ c4.slots.size ≤ ((0 : Int32)).toNatClampNeg) := inb_of S4 ⟨by decide, by decide⟩
  have y4 : c4.slots[((0 : Int32)).toNatClampNeg]? = some (.int (0 : Int32)) := H4 0 (by rw [S4]; decide)
  obtain ⟨cq5, kq5, q5a, q5b, q5c⟩ := isOf hZ e3 (fx_E_READ FF3)
  obtain ⟨_, _, ⟨T5, L5, k5, n5⟩, -, X5, ⟨Lc5, hQ5, l5, y5, z5⟩, st5⟩ := X3.virtualBack hx (y := (⟨"com/example/schedulock/schedulock/schedule/OperationKind", "conflictsWith", "(Lcom/example/schedulock/schedulock/schedule/OperationKind;)Z"⟩ : MethodName)) (z := (⟨"com/example/schedulock/schedulock/schedule/OperationKind", "conflictsWith", "(Lcom/example/schedulock/schedulock/schedule/OperationKind;)Z"⟩ : MethodName)) hown (mvT hZ (hw _ (List.mem_of_getElem? (i := 11) rfl))) (mvT hZ (hw _ (List.mem_of_getElem? (i := 12) rfl))) (notFace_of_selects (args := #[]) (mvT hZ (hw _ (List.mem_of_getElem? (i := 14) rfl)))) (mvT hZ (hw _ (List.mem_of_getElem? (i := 14) rfl))) (mvT hZ (hw _ (List.mem_of_getElem? (i := 13) rfl))) (by decide) (backOf (W := 0) (rm2_0 l Z a0 hw [] p0 p1 a_READ a_COMMIT a_ABORT a_WRITE a_INCREMENT h3 n0 (Nat.le_trans Z0 z3) FF3) hZ (hw _ (List.mem_of_getElem? (i := 15) rfl)) (hw _ (List.mem_of_getElem? (i := 6) rfl)) (by decide) (by decide)) q5a q5c (g := (mkF m 165 #[.val (.int p0), .val (.int p1), .val (.int (0 : Int32)), .val (.int (0 : Int32)), .val (.ref a_READ), .val (.ref a_READ), .val (.ref b3), .val (.int (0 : Int32))] [(.ref a_READ), (.ref a_READ)])) rfl (by rw [hml]; rfl) (Steps.refl _) (argsL := [(.ref a_READ)]) (rest := []) (lenOf pd_1 rfl) rfl (by show 2 * 0 + _ ≤ _; exact Nat.le_of_eq rfl) (hb hby at_165) (fun _ _ => ⟨rfl, e3, (by decide : 1 + 0 ≤ _), (by decide : 25 + 0 ≤ _)⟩)
  dsimp only [Pt.U, Pt.locs, Pt.cells, Pt.slots] at X5 l5 y5 z5 st5 hQ5
  subst l5 y5 z5
  obtain ⟨rfl, N5q, e5⟩ := hQ5
  have N5 := Fr.app N3 N5q
  obtain ⟨fs, hr, hrun, hended, hW, hsame⟩ := X5.leave (v := some (.int (1 : Int32))) (fun h => by rw [Bd.returns] at h; cases h)
  refine ⟨_, _, pre0 _ ?_, hrun, hended, _, _, rfl, ?_, ⟨_, rfl⟩, hW, hsame.mono (by decide) (by decide)⟩
  · show Steps p.tables e below (s₁.setTop (mkF m 0 #[.val (.int p0), .val (.int p1), .unset, .unset, .unset, .unset, .unset, .unset] [])) _
    refine XS.iloadN X0.here hx rfl (hb hby at_0) rfl ?_
    show Steps p.tables e below (s₁.setTop (mkF m 1 #[.val (.int p0), .val (.int p1), .unset, .unset, .unset, .unset, .unset, .unset] [(.int p0)])) _
    refine X0.ldcInt hx hown (mvT hZ (hw _ (List.mem_of_getElem? (i := 0) rfl))) (g := (mkF m 1 #[.val (.int p0), .val (.int p1), .unset, .unset, .unset, .unset, .unset, .unset] [(.int p0)])) rfl (hb hby at_1) _ ?_
    show Steps p.tables e below (s₁.setTop (mkF m 3 #[.val (.int p0), .val (.int p1), .unset, .unset, .unset, .unset, .unset, .unset] [(.int (2147483647 : Int32)), (.int p0)])) _
    refine XS.iand X0.here hx rfl (hb hby at_3) rfl ?_
    show Steps p.tables e below (s₁.setTop (mkF m 4 #[.val (.int p0), .val (.int p1), .unset, .unset, .unset, .unset, .unset, .unset] [(.int (p0 &&& (2147483647 : Int32)))])) _
    refine XS.iconst X0.here hx rfl (hb hby at_4) ?_
    show Steps p.tables e below (s₁.setTop (mkF m 5 #[.val (.int p0), .val (.int p1), .unset, .unset, .unset, .unset, .unset, .unset] [(.int (5 : Int32)), (.int (p0 &&& (2147483647 : Int32)))])) _
    refine iremM X0 hx rfl (hb hby at_5) rfl (by decide) ?_
    show Steps p.tables e below (s₁.setTop (mkF m 6 #[.val (.int p0), .val (.int p1), .unset, .unset, .unset, .unset, .unset, .unset] [(.int ((p0 &&& (2147483647 : Int32)) % (5 : Int32)))])) _
    rw [hk0]
    show Steps p.tables e below (s₁.setTop (mkF m 6 #[.val (.int p0), .val (.int p1), .unset, .unset, .unset, .unset, .unset, .unset] [(.int (0 : Int32))])) _
    refine XS.istoreN X0.here hx rfl (hb hby at_6) rfl (l' := #[.val (.int p0), .val (.int p1), .val (.int (0 : Int32)), .unset, .unset, .unset, .unset, .unset]) rfl ?_
    show Steps p.tables e below (s₁.setTop (mkF m 7 #[.val (.int p0), .val (.int p1), .val (.int (0 : Int32)), .unset, .unset, .unset, .unset, .unset] [])) _
    refine XS.iloadN X0.here hx rfl (hb hby at_7) rfl ?_
    show Steps p.tables e below (s₁.setTop (mkF m 8 #[.val (.int p0), .val (.int p1), .val (.int (0 : Int32)), .unset, .unset, .unset, .unset, .unset] [(.int p1)])) _
    refine X0.ldcInt hx hown (mvT hZ (hw _ (List.mem_of_getElem? (i := 0) rfl))) (g := (mkF m 8 #[.val (.int p0), .val (.int p1), .val (.int (0 : Int32)), .unset, .unset, .unset, .unset, .unset] [(.int p1)])) rfl (hb hby at_8) _ ?_
    show Steps p.tables e below (s₁.setTop (mkF m 10 #[.val (.int p0), .val (.int p1), .val (.int (0 : Int32)), .unset, .unset, .unset, .unset, .unset] [(.int (2147483647 : Int32)), (.int p1)])) _
    refine XS.iand X0.here hx rfl (hb hby at_10) rfl ?_
    show Steps p.tables e below (s₁.setTop (mkF m 11 #[.val (.int p0), .val (.int p1), .val (.int (0 : Int32)), .unset, .unset, .unset, .unset, .unset] [(.int (p1 &&& (2147483647 : Int32)))])) _
    refine XS.iconst X0.here hx rfl (hb hby at_11) ?_
    show Steps p.tables e below (s₁.setTop (mkF m 12 #[.val (.int p0), .val (.int p1), .val (.int (0 : Int32)), .unset, .unset, .unset, .unset, .unset] [(.int (5 : Int32)), (.int (p1 &&& (2147483647 : Int32)))])) _
    refine iremM X0 hx rfl (hb hby at_12) rfl (by decide) ?_
    show Steps p.tables e below (s₁.setTop (mkF m 13 #[.val (.int p0), .val (.int p1), .val (.int (0 : Int32)), .unset, .unset, .unset, .unset, .unset] [(.int ((p1 &&& (2147483647 : Int32)) % (5 : Int32)))])) _
    rw [hk1]
    show Steps p.tables e below (s₁.setTop (mkF m 13 #[.val (.int p0), .val (.int p1), .val (.int (0 : Int32)), .unset, .unset, .unset, .unset, .unset] [(.int (0 : Int32))])) _
    refine XS.istoreN X0.here hx rfl (hb hby at_13) rfl (l' := #[.val (.int p0), .val (.int p1), .val (.int (0 : Int32)), .val (.int (0 : Int32)), .unset, .unset, .unset, .unset]) rfl ?_
    show Steps p.tables e below (s₁.setTop (mkF m 14 #[.val (.int p0), .val (.int p1), .val (.int (0 : Int32)), .val (.int (0 : Int32)), .unset, .unset, .unset, .unset] [])) _
    refine XS.iloadN X0.here hx rfl (hb hby at_14) rfl ?_
    show Steps p.tables e below (s₁.setTop (mkF m 15 #[.val (.int p0), .val (.int p1), .val (.int (0 : Int32)), .val (.int (0 : Int32)), .unset, .unset, .unset, .unset] [(.int (0 : Int32))])) _
    refine st1 _ ?_
    show Steps p.tables e below (T1.setTop (mkF m 18 #[.val (.int p0), .val (.int p1), .val (.int (0 : Int32)), .val (.int (0 : Int32)), .unset, .unset, .unset, .unset] [(.ref a_READ)])) _
    refine XS.astore X1.here hx rfl (hb hby at_18) rfl rfl (l' := #[.val (.int p0), .val (.int p1), .val (.int (0 : Int32)), .val (.int (0 : Int32)), .val (.ref a_READ), .unset, .unset, .unset]) rfl ?_
    show Steps p.tables e below (T1.setTop (mkF m 20 #[.val (.int p0), .val (.int p1), .val (.int (0 : Int32)), .val (.int (0 : Int32)), .val (.ref a_READ), .unset, .unset, .unset] [])) _
    refine XS.iloadN X1.here hx rfl (hb hby at_20) rfl ?_
    show Steps p.tables e below (T1.setTop (mkF m 21 #[.val (.int p0), .val (.int p1), .val (.int (0 : Int32)), .val (.int (0 : Int32)), .val (.ref a_READ), .unset, .unset, .unset] [(.int (0 : Int32))])) _
    refine st2 _ ?_
    show Steps p.tables e below (T2.setTop (mkF m 24 #[.val (.int p0), .val (.int p1), .val (.int (0 : Int32)), .val (.int (0 : Int32)), .val (.ref a_READ), .unset, .unset, .unset] [(.ref a_READ)])) _
    refine XS.astore X2.here hx rfl (hb hby at_24) rfl rfl (l' := #[.val (.int p0), .val (.int p1), .val (.int (0 : Int32)), .val (.int (0 : Int32)), .val (.ref a_READ), .val (.ref a_READ), .unset, .unset]) rfl ?_
    show Steps p.tables e below (T2.setTop (mkF m 26 #[.val (.int p0), .val (.int p1), .val (.int (0 : Int32)), .val (.int (0 : Int32)), .val (.ref a_READ), .val (.ref a_READ), .unset, .unset] [])) _
    refine st3 _ ?_
    show Steps p.tables e below (T3.setTop (mkF m 151 #[.val (.int p0), .val (.int p1), .val (.int (0 : Int32)), .val (.int (0 : Int32)), .val (.ref a_READ), .val (.ref a_READ), .val (.ref b3), .unset] [])) _
    refine XS.aload X3.here hx rfl (hb hby at_151) rfl rfl ?_
    show Steps p.tables e below (T3.setTop (mkF m 153 #[.val (.int p0), .val (.int p1), .val (.int (0 : Int32)), .val (.int (0 : Int32)), .val (.ref a_READ), .val (.ref a_READ), .val (.ref b3), .unset] [(.ref b3)])) _
    refine XS.iloadN X3.here hx rfl (hb hby at_153) rfl ?_
    show Steps p.tables e below (T3.setTop (mkF m 154 #[.val (.int p0), .val (.int p1), .val (.int (0 : Int32)), .val (.int (0 : Int32)), .val (.ref a_READ), .val (.ref a_READ), .val (.ref b3), .unset] [(.int (0 : Int32)), (.ref b3)])) _
    refine XS.iconst X3.here hx rfl (hb hby at_154) ?_
    show Steps p.tables e below (T3.setTop (mkF m 155 #[.val (.int p0), .val (.int p1), .val (.int (0 : Int32)), .val (.int (0 : Int32)), .val (.ref a_READ), .val (.ref a_READ), .val (.ref b3), .unset] [(.int (5 : Int32)), (.int (0 : Int32)), (.ref b3)])) _
    refine XS.imul X3.here hx rfl (hb hby at_155) rfl ?_
    show Steps p.tables e below (T3.setTop (mkF m 156 #[.val (.int p0), .val (.int p1), .val (.int (0 : Int32)), .val (.int (0 : Int32)), .val (.ref a_READ), .val (.ref a_READ), .val (.ref b3), .unset] [(.int ((0 : Int32) * (5 : Int32))), (.ref b3)])) _
    rw [(by decide : ((0 : Int32) * (5 : Int32)) = (0 : Int32))]
    show Steps p.tables e below (T3.setTop (mkF m 156 #[.val (.int p0), .val (.int p1), .val (.int (0 : Int32)), .val (.int (0 : Int32)), .val (.ref a_READ), .val (.ref a_READ), .val (.ref b3), .unset] [(.int (0 : Int32)), (.ref b3)])) _
    refine XS.iloadN X3.here hx rfl (hb hby at_156) rfl ?_
    show Steps p.tables e below (T3.setTop (mkF m 157 #[.val (.int p0), .val (.int p1), .val (.int (0 : Int32)), .val (.int (0 : Int32)), .val (.ref a_READ), .val (.ref a_READ), .val (.ref b3), .unset] [(.int (0 : Int32)), (.int (0 : Int32)), (.ref b3)])) _
    refine XS.iadd X3.here hx rfl (hb hby at_157) rfl ?_
    show Steps p.tables e below (T3.setTop (mkF m 158 #[.val (.int p0), .val (.int p1), .val (.int (0 : Int32)), .val (.int (0 : Int32)), .val (.ref a_READ), .val (.ref a_READ), .val (.ref b3), .unset] [(.int ((0 : Int32) + (0 : Int32))), (.ref b3)])) _
    rw [(by decide : ((0 : Int32) + (0 : Int32)) = (0 : Int32))]
    show Steps p.tables e below (T3.setTop (mkF m 158 #[.val (.int p0), .val (.int p1), .val (.int (0 : Int32)), .val (.int (0 : Int32)), .val (.ref a_READ), .val (.ref a_READ), .val (.ref b3), .unset] [(.int (0 : Int32)), (.ref b3)])) _
    refine X3.baloadBooleans hx (j := (0 : Int32)) (v := (.int (0 : Int32))) (by rw [e3]; exact r4.1) (State.isArrayOf_alike hZ.alike r4.2.1) r4.2.2 i4 y4 (g := (mkF m 158 #[.val (.int p0), .val (.int p1), .val (.int (0 : Int32)), .val (.int (0 : Int32)), .val (.ref a_READ), .val (.ref a_READ), .val (.ref b3), .unset] [(.int (0 : Int32)), (.ref b3)])) rfl rfl (hb hby at_158) _ ?_
    show Steps p.tables e below (T3.setTop (mkF m 159 #[.val (.int p0), .val (.int p1), .val (.int (0 : Int32)), .val (.int (0 : Int32)), .val (.ref a_READ), .val (.ref a_READ), .val (.ref b3), .unset] [(.int (0 : Int32))])) _
    refine XS.istore X3.here hx rfl (hb hby at_159) rfl (l' := #[.val (.int p0), .val (.int p1), .val (.int (0 : Int32)), .val (.int (0 : Int32)), .val (.ref a_READ), .val (.ref a_READ), .val (.ref b3), .val (.int (0 : Int32))]) rfl ?_
    show Steps p.tables e below (T3.setTop (mkF m 161 #[.val (.int p0), .val (.int p1), .val (.int (0 : Int32)), .val (.int (0 : Int32)), .val (.ref a_READ), .val (.ref a_READ), .val (.ref b3), .val (.int (0 : Int32))] [])) _
    refine XS.aload X3.here hx rfl (hb hby at_161) rfl rfl ?_
    show Steps p.tables e below (T3.setTop (mkF m 163 #[.val (.int p0), .val (.int p1), .val (.int (0 : Int32)), .val (.int (0 : Int32)), .val (.ref a_READ), .val (.ref a_READ), .val (.ref b3), .val (.int (0 : Int32))] [(.ref a_READ)])) _
    refine XS.aload X3.here hx rfl (hb hby at_163) rfl rfl ?_
    show Steps p.tables e below (T3.setTop (mkF m 165 #[.val (.int p0), .val (.int p1), .val (.int (0 : Int32)), .val (.int (0 : Int32)), .val (.ref a_READ), .val (.ref a_READ), .val (.ref b3), .val (.int (0 : Int32))] [(.ref a_READ), (.ref a_READ)])) _
    refine st5.trans ?_
    show Steps p.tables e below (T5.setTop (mkF m 168 #[.val (.int p0), .val (.int p1), .val (.int (0 : Int32)), .val (.int (0 : Int32)), .val (.ref a_READ), .val (.ref a_READ), .val (.ref b3), .val (.int (0 : Int32))] [(.int (0 : Int32))])) _
    refine XS.iload X5.here hx rfl (hb hby at_168) rfl ?_
    show Steps p.tables e below (T5.setTop (mkF m 170 #[.val (.int p0), .val (.int p1), .val (.int (0 : Int32)), .val (.int (0 : Int32)), .val (.ref a_READ), .val (.ref a_READ), .val (.ref b3), .val (.int (0 : Int32))] [(.int (0 : Int32)), (.int (0 : Int32))])) _
    refine XS.icmpNo X5.here hx rfl (hb hby at_170) rfl (by decide) ?_
    show Steps p.tables e below (T5.setTop (mkF m 173 #[.val (.int p0), .val (.int p1), .val (.int (0 : Int32)), .val (.int (0 : Int32)), .val (.ref a_READ), .val (.ref a_READ), .val (.ref b3), .val (.int (0 : Int32))] [])) _
    refine XS.iconst X5.here hx rfl (hb hby at_173) ?_
    show Steps p.tables e below (T5.setTop (mkF m 174 #[.val (.int p0), .val (.int p1), .val (.int (0 : Int32)), .val (.int (0 : Int32)), .val (.ref a_READ), .val (.ref a_READ), .val (.ref b3), .val (.int (0 : Int32))] [(.int (1 : Int32))])) _
    refine XS.goto X5.here hx rfl (pc0 := 174) (pc' := 178) rfl (hb hby at_174) (by decide) (by decide) ?_
    show Steps p.tables e below (T5.setTop (mkF m 178 #[.val (.int p0), .val (.int p1), .val (.int (0 : Int32)), .val (.int (0 : Int32)), .val (.ref a_READ), .val (.ref a_READ), .val (.ref b3), .val (.int (0 : Int32))] [(.int (1 : Int32))])) _
    exact retN X5 hx (t := .boolean) Bd.returns (by simp) (hb hby at_178) hr
  · exact ⟨rfl, N5⟩
set_option maxRecDepth 65536 in
set_option maxHeartbeats 40000000 in
theorem rm1_1 (l : Launch) (Z : State) (a0 : Array Value) (hw : ∀ d ∈ tables_1, d.before a0 Z = true) (ws : List Jvm.Cond) (p0 p1 : Int32) (a_READ a_COMMIT a_ABORT a_WRITE a_INCREMENT : Addr) (h0 : Heap) (n0 : Nat) (Z0 : n0 ≤ h0.size) (FF : Facts Z h0 a_READ a_COMMIT a_ABORT a_WRITE a_INCREMENT) :
    MetFree l (⟨"com/example/schedulock/schedulock/schedule/OperationKindConflictsWithPinLaw", "kind", "(I)Lcom/example/schedulock/schedulock/schedule/OperationKind;"⟩ : MethodName) (head1 (Jvm.Cond.code (⟨"com/example/schedulock/schedulock/schedule/OperationKindConflictsWithPinLaw", "kind", "(I)Lcom/example/schedulock/schedulock/schedule/OperationKind;"⟩ : MethodName) method_3_code 1 (some (.object "com/example/schedulock/schedulock/schedule/OperationKind")) :: ws) ({ frames := 0, cells := 0, slots := 0, locals := 0 } : Room)) (fun a U => a = #[(.int (1 : Int32))] ∧ Z.Warmed39 U.vm ∧ U.heap = h0) (fun _ _ _ _ _ => True) (fun _ U o U' => ∃ v L, o = .returned v ∧ own_Q (.ref a_WRITE) h0 n0 v U'.heap L ∧ FrameEnd U o U' L ({ frames := 0, cells := 0, slots := 0, locals := 0 } : Room).cells ({ frames := 0, cells := 0, slots := 0, locals := 0 } : Room).slots) := by
  refine MetFree.of_bodySF (plainFor_of_name pn_1) hisR ?_
  intro p e s m args below meth c s₁ Bd hml0 hP hK
  obtain ⟨rfl, hZ, hh⟩ := hP
  have hx := Bd.exec
  have hby := Bd.bytes
  have hml : c.maxLocals = 1 := hml0
  have hown : s.vm.findClass "com/example/schedulock/schedulock/schedule/OperationKindConflictsWithPinLaw" = some m.cls := findClass_of_methodNamed Bd.named
  have X0 : Stand p l e ({ frames := 0, cells := 0, slots := 0, locals := 0 } : Room) s m #[(.int (1 : Int32))] below meth c s₁ [] 0 0 := Stand.of_body Bd
  have e0 : s₁.heap = h0 := by rw [← hh, Bd.state]; rfl
  have N0 := Fr.nil n0
  have pre0 : ∀ t, Steps p.tables e below (s₁.setTop (mkF m 0 #[.val (.int (1 : Int32))] [])) t → Steps p.tables e below (s₁.setTop (entryFrame m #[(.int (1 : Int32))] 1)) t := fun t k => castTop (ef_1 m (1 : Int32)) k
  obtain ⟨T1, X1, e1, st1⟩ := getS2 X0 hx hZ hown (host := "") (Or.inl (hw _ (List.mem_of_getElem? (i := 20) rfl))) Via.refl e0 (fx_S_WRITE FF) (g := (mkF m 13 #[.val (.int (1 : Int32))] [])) rfl (hb hby d1_13)
  obtain ⟨fs, hr, hrun, hended, hW, hsame⟩ := X1.leave (v := some (.ref a_WRITE)) (fun h => by rw [Bd.returns] at h; cases h)
  refine ⟨_, _, pre0 _ ?_, hrun, hended, _, _, rfl, ?_, ⟨_, rfl⟩, hW, hsame.mono (by decide) (by decide)⟩
  · show Steps p.tables e below (s₁.setTop (mkF m 0 #[.val (.int (1 : Int32))] [])) _
    refine XS.iloadN X0.here hx rfl (hb hby d1_0) rfl ?_
    show Steps p.tables e below (s₁.setTop (mkF m 1 #[.val (.int (1 : Int32))] [(.int (1 : Int32))])) _
    refine XS.ifYes X0.here hx rfl (pc0 := 1) (pc' := 8) rfl (hb hby d1_1) rfl (by decide) (by decide) (by decide) ?_
    show Steps p.tables e below (s₁.setTop (mkF m 8 #[.val (.int (1 : Int32))] [])) _
    refine XS.iloadN X0.here hx rfl (hb hby d1_8) rfl ?_
    show Steps p.tables e below (s₁.setTop (mkF m 9 #[.val (.int (1 : Int32))] [(.int (1 : Int32))])) _
    refine XS.iconst X0.here hx rfl (hb hby d1_9) ?_
    show Steps p.tables e below (s₁.setTop (mkF m 10 #[.val (.int (1 : Int32))] [(.int (1 : Int32)), (.int (1 : Int32))])) _
    refine XS.icmpNo X0.here hx rfl (hb hby d1_10) rfl (by decide) ?_
    show Steps p.tables e below (s₁.setTop (mkF m 13 #[.val (.int (1 : Int32))] [])) _
    refine st1 _ ?_
    show Steps p.tables e below (T1.setTop (mkF m 16 #[.val (.int (1 : Int32))] [(.ref a_WRITE)])) _
    exact retOut X1 hx Bd.returns rfl (Or.inr (Or.inr (Or.inr (Or.inr ⟨rfl, rfl, rfl⟩)))) (hb hby d1_16) hr
  · show own_Q _ _ _ _ T1.heap _
    exact ⟨rfl, N0, e1⟩
set_option maxRecDepth 65536 in
set_option maxHeartbeats 40000000 in
theorem rm2_1 (l : Launch) (Z : State) (a0 : Array Value) (hw : ∀ d ∈ tables_1, d.before a0 Z = true) (ws : List Jvm.Cond) (p0 p1 : Int32) (a_READ a_COMMIT a_ABORT a_WRITE a_INCREMENT : Addr) (h0 : Heap) (n0 : Nat) (Z0 : n0 ≤ h0.size) (FF : Facts Z h0 a_READ a_COMMIT a_ABORT a_WRITE a_INCREMENT) :
    MetFree l (⟨"com/example/schedulock/schedulock/schedule/OperationKind", "conflictsWith", "(Lcom/example/schedulock/schedulock/schedule/OperationKind;)Z"⟩ : MethodName) (head1 (Jvm.Cond.code (⟨"com/example/schedulock/schedulock/schedule/OperationKind", "conflictsWith", "(Lcom/example/schedulock/schedulock/schedule/OperationKind;)Z"⟩ : MethodName) prog_31_method_5_code 2 (some .boolean) :: ws) ({ frames := 0, cells := 0, slots := 0, locals := 0 } : Room)) (fun a U => a = #[(.ref a_READ), (.ref a_WRITE)] ∧ Z.Warmed39 U.vm ∧ U.heap = h0) (fun _ _ _ _ _ => True) (fun _ U o U' => ∃ v L, o = .returned v ∧ own_Q (.int (1 : Int32)) h0 n0 v U'.heap L ∧ FrameEnd U o U' L ({ frames := 0, cells := 0, slots := 0, locals := 0 } : Room).cells ({ frames := 0, cells := 0, slots := 0, locals := 0 } : Room).slots) := by
  refine MetFree.of_bodySF (plainFor_of_name pn_2) hisR ?_
  intro p e s m args below meth c s₁ Bd hml0 hP hK
  obtain ⟨rfl, hZ, hh⟩ := hP
  have hx := Bd.exec
  have hby := Bd.bytes
  have hml : c.maxLocals = 2 := hml0
  have hown : s.vm.findClass "com/example/schedulock/schedulock/schedule/OperationKind" = some m.cls := findClass_of_methodNamed Bd.named
  have X0 : Stand p l e ({ frames := 0, cells := 0, slots := 0, locals := 0 } : Room) s m #[(.ref a_READ), (.ref a_WRITE)] below meth c s₁ [] 0 0 := Stand.of_body Bd
  have e0 : s₁.heap = h0 := by rw [← hh, Bd.state]; rfl
  have N0 := Fr.nil n0
  have pre0 : ∀ t, Steps p.tables e below (s₁.setTop (mkF m 0 #[.val (.ref a_READ), .val (.ref a_WRITE)] [])) t → Steps p.tables e below (s₁.setTop (entryFrame m #[(.ref a_READ), (.ref a_WRITE)] 2)) t := fun t k => castTop (ef_2 m a_READ a_WRITE) k
  obtain ⟨T1, X1, e1, st1⟩ := getF X0 hx hZ hown (host := "") (Or.inl (hw _ (List.mem_of_getElem? (i := 16) rfl))) Via.refl e0 (fx_F_READ_takesItem FF) (g := (mkF m 1 #[.val (.ref a_READ), .val (.ref a_WRITE)] [(.ref a_READ)])) rfl rfl (hb hby d2_1)
  obtain ⟨T2, X2, e2, st2⟩ := getF X1 hx hZ hown (host := "") (Or.inl (hw _ (List.mem_of_getElem? (i := 16) rfl))) Via.refl e1 (fx_F_WRITE_takesItem FF) (g := (mkF m 8 #[.val (.ref a_READ), .val (.ref a_WRITE)] [(.ref a_WRITE)])) rfl rfl (hb hby d2_8)
  obtain ⟨fs, hr, hrun, hended, hW, hsame⟩ := X2.leave (v := some (.int (1 : Int32))) (fun h => by rw [Bd.returns] at h; cases h)
  refine ⟨_, _, pre0 _ ?_, hrun, hended, _, _, rfl, ?_, ⟨_, rfl⟩, hW, hsame.mono (by decide) (by decide)⟩
  · show Steps p.tables e below (s₁.setTop (mkF m 0 #[.val (.ref a_READ), .val (.ref a_WRITE)] [])) _
    refine XS.aloadN X0.here hx rfl (hb hby d2_0) rfl rfl ?_
    show Steps p.tables e below (s₁.setTop (mkF m 1 #[.val (.ref a_READ), .val (.ref a_WRITE)] [(.ref a_READ)])) _
    refine st1 _ ?_
    show Steps p.tables e below (T1.setTop (mkF m 4 #[.val (.ref a_READ), .val (.ref a_WRITE)] [(.int (1 : Int32))])) _
    refine XS.ifNo X1.here hx rfl (hb hby d2_4) rfl (by decide) ?_
    show Steps p.tables e below (T1.setTop (mkF m 7 #[.val (.ref a_READ), .val (.ref a_WRITE)] [])) _
    refine XS.aloadN X1.here hx rfl (hb hby d2_7) rfl rfl ?_
    show Steps p.tables e below (T1.setTop (mkF m 8 #[.val (.ref a_READ), .val (.ref a_WRITE)] [(.ref a_WRITE)])) _
    refine st2 _ ?_
    show Steps p.tables e below (T2.setTop (mkF m 11 #[.val (.ref a_READ), .val (.ref a_WRITE)] [(.int (1 : Int32))])) _
    refine XS.ifNo X2.here hx rfl (hb hby d2_11) rfl (by decide) ?_
    show Steps p.tables e below (T2.setTop (mkF m 14 #[.val (.ref a_READ), .val (.ref a_WRITE)] [])) _
    refine XS.aloadN X2.here hx rfl (hb hby d2_14) rfl rfl ?_
    show Steps p.tables e below (T2.setTop (mkF m 15 #[.val (.ref a_READ), .val (.ref a_WRITE)] [(.ref a_READ)])) _
    refine XS.aloadN X2.here hx rfl (hb hby d2_15) rfl rfl ?_
    show Steps p.tables e below (T2.setTop (mkF m 16 #[.val (.ref a_READ), .val (.ref a_WRITE)] [(.ref a_WRITE), (.ref a_READ)])) _
    refine Jvm.RoadKit.acmp (g := (mkF m 16 #[.val (.ref a_READ), .val (.ref a_WRITE)] [(.ref a_WRITE), (.ref a_READ)])) X2 hx rfl rfl rfl (pc0 := 16) (pc' := 26) (same := false) rfl (hb hby d2_16) rfl (decide_eq_false fun q => Fld.ne (fx_F_READ_ordinal FF) (fx_F_WRITE_ordinal FF) (by decide) (Value.ref.inj q)) (by decide) (by decide) ?_
    show Steps p.tables e below (T2.setTop (mkF m 26 #[.val (.ref a_READ), .val (.ref a_WRITE)] [])) _
    refine XS.iconst X2.here hx rfl (hb hby d2_26) ?_
    show Steps p.tables e below (T2.setTop (mkF m 27 #[.val (.ref a_READ), .val (.ref a_WRITE)] [(.int (1 : Int32))])) _
    refine XS.goto X2.here hx rfl (pc0 := 27) (pc' := 31) rfl (hb hby d2_27) (by decide) (by decide) ?_
    show Steps p.tables e below (T2.setTop (mkF m 31 #[.val (.ref a_READ), .val (.ref a_WRITE)] [(.int (1 : Int32))])) _
    exact retN X2 hx (t := .boolean) Bd.returns (by simp) (hb hby d2_31) hr
  · show own_Q _ _ _ _ T2.heap _
    exact ⟨rfl, N0, e2⟩
set_option maxRecDepth 65536 in
set_option maxHeartbeats 40000000 in
theorem rm0_1 (l : Launch) (Z : State) (a0 : Array Value) (hw : ∀ d ∈ tables_1, d.before a0 Z = true) (ws : List Jvm.Cond) (p0 p1 : Int32) (a_READ a_COMMIT a_ABORT a_WRITE a_INCREMENT : Addr) (h0 : Heap) (n0 : Nat) (Z0 : n0 ≤ h0.size) (FF : Facts Z h0 a_READ a_COMMIT a_ABORT a_WRITE a_INCREMENT) (hk0 : ((p0 &&& (2147483647 : Int32)) % (5 : Int32)) = (0 : Int32)) (hk1 : ((p1 &&& (2147483647 : Int32)) % (5 : Int32)) = (1 : Int32)) :
    MetFree l x (head1 (Jvm.Cond.code x code maxLocals ret :: ws) room_1) (fun a U => a = #[(.int p0), (.int p1)] ∧ Z.Warmed39 U.vm ∧ U.heap = h0) (fun _ _ _ _ _ => True) (fun _ U o U' => ∃ v L, o = .returned v ∧ (v = some (.int (1 : Int32)) ∧ Fr n0 L) ∧ FrameEnd U o U' L room_1.cells room_1.slots) := by
  refine MetFree.of_bodySF (plainFor_of_name pn_0) hisR ?_
  intro p e s m args below meth c s₁ Bd hml0 hP hK
  obtain ⟨rfl, hZ, hh⟩ := hP
  have hx := Bd.exec
  have hby := Bd.bytes
  have hml : c.maxLocals = 8 := hml0
  have hown : s.vm.findClass "com/example/schedulock/schedulock/schedule/OperationKindConflictsWithPinLaw" = some m.cls := findClass_of_methodNamed Bd.named
  have X0 : Stand p l e room_1 s m #[(.int p0), (.int p1)] below meth c s₁ [] 0 0 := Stand.of_body Bd
  have e0 : s₁.heap = h0 := by rw [← hh, Bd.state]; rfl
  have N0 := Fr.nil n0
  have pre0 : ∀ t, Steps p.tables e below (s₁.setTop (mkF m 0 #[.val (.int p0), .val (.int p1), .unset, .unset, .unset, .unset, .unset, .unset] [])) t → Steps p.tables e below (s₁.setTop (entryFrame m #[(.int p0), (.int p1)] maxLocals)) t := fun t k => castTop (ef_0 m p0 p1) k
  obtain ⟨_, _, ⟨T1, L1, k1, n1⟩, -, X1, ⟨Lc1, hQ1, l1, y1, z1⟩, st1⟩ := Jvm.LawKit.callS X0 hx (y := (⟨"com/example/schedulock/schedulock/schedule/OperationKindConflictsWithPinLaw", "kind", "(I)Lcom/example/schedulock/schedulock/schedule/OperationKind;"⟩ : MethodName)) hown (mvT hZ (hw _ (List.mem_of_getElem? (i := 1) rfl))) (mvT hZ (hw _ (List.mem_of_getElem? (i := 2) rfl))) (mvT hZ (hw _ (List.mem_of_getElem? (i := 3) rfl))) (mvT hZ (hw _ (List.mem_of_getElem? (i := 4) rfl))) (by decide) (backOf (W := 0) (rm1_0 l Z a0 hw [] p0 p1 a_READ a_COMMIT a_ABORT a_WRITE a_INCREMENT h0 n0 (Nat.le_trans Z0 (Nat.le_refl _)) FF) hZ (hw _ (List.mem_of_getElem? (i := 4) rfl)) (hw _ (List.mem_of_getElem? (i := 3) rfl)) (by decide) (by decide)) (g := (mkF m 15 #[.val (.int p0), .val (.int p1), .val (.int (0 : Int32)), .val (.int (1 : Int32)), .unset, .unset, .unset, .unset] [(.int (0 : Int32))])) rfl (by rw [hml]; rfl) (argsL := [(.int (0 : Int32))]) (rest := []) (lenOf pd_0 rfl) rfl (by show 2 * 0 + _ ≤ _; exact Nat.le_of_eq rfl) (hb hby at_15) (fun _ _ => ⟨rfl, e0, (by decide : 0 + 0 ≤ _), (by decide : 0 + 0 ≤ _)⟩)
  dsimp only [Pt.U, Pt.locs, Pt.cells, Pt.slots] at X1 l1 y1 z1 st1 hQ1
  subst l1 y1 z1
  obtain ⟨rfl, N1q, e1⟩ := hQ1
  have N1 := Fr.app N0 N1q
  obtain ⟨_, _, ⟨T2, L2, k2, n2⟩, -, X2, ⟨Lc2, hQ2, l2, y2, z2⟩, st2⟩ := Jvm.LawKit.callS X1 hx (y := (⟨"com/example/schedulock/schedulock/schedule/OperationKindConflictsWithPinLaw", "kind", "(I)Lcom/example/schedulock/schedulock/schedule/OperationKind;"⟩ : MethodName)) hown (mvT hZ (hw _ (List.mem_of_getElem? (i := 1) rfl))) (mvT hZ (hw _ (List.mem_of_getElem? (i := 2) rfl))) (mvT hZ (hw _ (List.mem_of_getElem? (i := 3) rfl))) (mvT hZ (hw _ (List.mem_of_getElem? (i := 4) rfl))) (by decide) (backOf (W := 0) (rm1_1 l Z a0 hw [] p0 p1 a_READ a_COMMIT a_ABORT a_WRITE a_INCREMENT h0 n0 (Nat.le_trans Z0 (Nat.le_refl _)) FF) hZ (hw _ (List.mem_of_getElem? (i := 4) rfl)) (hw _ (List.mem_of_getElem? (i := 3) rfl)) (by decide) (by decide)) (g := (mkF m 21 #[.val (.int p0), .val (.int p1), .val (.int (0 : Int32)), .val (.int (1 : Int32)), .val (.ref a_READ), .unset, .unset, .unset] [(.int (1 : Int32))])) rfl (by rw [hml]; rfl) (argsL := [(.int (1 : Int32))]) (rest := []) (lenOf pd_0 rfl) rfl (by show 2 * 0 + _ ≤ _; exact Nat.le_of_eq rfl) (hb hby at_21) (fun _ _ => ⟨rfl, e1, (by decide : 0 + 0 ≤ _), (by decide : 0 + 0 ≤ _)⟩)
  dsimp only [Pt.U, Pt.locs, Pt.cells, Pt.slots] at X2 l2 y2 z2 st2 hQ2
  subst l2 y2 z2
  obtain ⟨rfl, N2q, e2⟩ := hQ2
  have N2 := Fr.app N1 N2q
  obtain ⟨T3, h3, b3, k3, lc3, X3, e3, s_b3, z3, N3, FF3, V3, st3⟩ := seg_0 (l := l) (Z := Z) hw a_READ a_COMMIT a_ABORT a_WRITE a_INCREMENT p0 p1 (0 : Int32) (1 : Int32) a_READ a_WRITE X2 hx hZ hby hml hown e2 Z0 N2 FF
  obtain ⟨c4, r4, -, S4, -, H4, -⟩ := V3
  have i4 : ¬ ((1 : Int32) < 0 ∨ c4.slots.size ≤ ((1 : Int32)).toNatClampNeg) := inb_of S4 ⟨by decide, by decide⟩
  have y4 : c4.slots[((1 : Int32)).toNatClampNeg]? = some (.int (1 : Int32)) := H4 1 (by rw [S4]; decide)
  obtain ⟨cq5, kq5, q5a, q5b, q5c⟩ := isOf hZ e3 (fx_E_READ FF3)
  obtain ⟨_, _, ⟨T5, L5, k5, n5⟩, -, X5, ⟨Lc5, hQ5, l5, y5, z5⟩, st5⟩ := X3.virtualBack hx (y := (⟨"com/example/schedulock/schedulock/schedule/OperationKind", "conflictsWith", "(Lcom/example/schedulock/schedulock/schedule/OperationKind;)Z"⟩ : MethodName)) (z := (⟨"com/example/schedulock/schedulock/schedule/OperationKind", "conflictsWith", "(Lcom/example/schedulock/schedulock/schedule/OperationKind;)Z"⟩ : MethodName)) hown (mvT hZ (hw _ (List.mem_of_getElem? (i := 11) rfl))) (mvT hZ (hw _ (List.mem_of_getElem? (i := 12) rfl))) (notFace_of_selects (args := #[]) (mvT hZ (hw _ (List.mem_of_getElem? (i := 14) rfl)))) (mvT hZ (hw _ (List.mem_of_getElem? (i := 14) rfl))) (mvT hZ (hw _ (List.mem_of_getElem? (i := 13) rfl))) (by decide) (backOf (W := 0) (rm2_1 l Z a0 hw [] p0 p1 a_READ a_COMMIT a_ABORT a_WRITE a_INCREMENT h3 n0 (Nat.le_trans Z0 z3) FF3) hZ (hw _ (List.mem_of_getElem? (i := 15) rfl)) (hw _ (List.mem_of_getElem? (i := 6) rfl)) (by decide) (by decide)) q5a q5c (g := (mkF m 165 #[.val (.int p0), .val (.int p1), .val (.int (0 : Int32)), .val (.int (1 : Int32)), .val (.ref a_READ), .val (.ref a_WRITE), .val (.ref b3), .val (.int (1 : Int32))] [(.ref a_WRITE), (.ref a_READ)])) rfl (by rw [hml]; rfl) (Steps.refl _) (argsL := [(.ref a_WRITE)]) (rest := []) (lenOf pd_1 rfl) rfl (by show 2 * 0 + _ ≤ _; exact Nat.le_of_eq rfl) (hb hby at_165) (fun _ _ => ⟨rfl, e3, (by decide : 1 + 0 ≤ _), (by decide : 25 + 0 ≤ _)⟩)
  dsimp only [Pt.U, Pt.locs, Pt.cells, Pt.slots] at X5 l5 y5 z5 st5 hQ5
  subst l5 y5 z5
  obtain ⟨rfl, N5q, e5⟩ := hQ5
  have N5 := Fr.app N3 N5q
  obtain ⟨fs, hr, hrun, hended, hW, hsame⟩ := X5.leave (v := some (.int (1 : Int32))) (fun h => by rw [Bd.returns] at h; cases h)
  refine ⟨_, _, pre0 _ ?_, hrun, hended, _, _, rfl, ?_, ⟨_, rfl⟩, hW, hsame.mono (by decide) (by decide)⟩
  · show Steps p.tables e below (s₁.setTop (mkF m 0 #[.val (.int p0), .val (.int p1), .unset, .unset, .unset, .unset, .unset, .unset] [])) _
    refine XS.iloadN X0.here hx rfl (hb hby at_0) rfl ?_
    show Steps p.tables e below (s₁.setTop (mkF m 1 #[.val (.int p0), .val (.int p1), .unset, .unset, .unset, .unset, .unset, .unset] [(.int p0)])) _
    refine X0.ldcInt hx hown (mvT hZ (hw _ (List.mem_of_getElem? (i := 0) rfl))) (g := (mkF m 1 #[.val (.int p0), .val (.int p1), .unset, .unset, .unset, .unset, .unset, .unset] [(.int p0)])) rfl (hb hby at_1) _ ?_
    show Steps p.tables e below (s₁.setTop (mkF m 3 #[.val (.int p0), .val (.int p1), .unset, .unset, .unset, .unset, .unset, .unset] [(.int (2147483647 : Int32)), (.int p0)])) _
    refine XS.iand X0.here hx rfl (hb hby at_3) rfl ?_
    show Steps p.tables e below (s₁.setTop (mkF m 4 #[.val (.int p0), .val (.int p1), .unset, .unset, .unset, .unset, .unset, .unset] [(.int (p0 &&& (2147483647 : Int32)))])) _
    refine XS.iconst X0.here hx rfl (hb hby at_4) ?_
    show Steps p.tables e below (s₁.setTop (mkF m 5 #[.val (.int p0), .val (.int p1), .unset, .unset, .unset, .unset, .unset, .unset] [(.int (5 : Int32)), (.int (p0 &&& (2147483647 : Int32)))])) _
    refine iremM X0 hx rfl (hb hby at_5) rfl (by decide) ?_
    show Steps p.tables e below (s₁.setTop (mkF m 6 #[.val (.int p0), .val (.int p1), .unset, .unset, .unset, .unset, .unset, .unset] [(.int ((p0 &&& (2147483647 : Int32)) % (5 : Int32)))])) _
    rw [hk0]
    show Steps p.tables e below (s₁.setTop (mkF m 6 #[.val (.int p0), .val (.int p1), .unset, .unset, .unset, .unset, .unset, .unset] [(.int (0 : Int32))])) _
    refine XS.istoreN X0.here hx rfl (hb hby at_6) rfl (l' := #[.val (.int p0), .val (.int p1), .val (.int (0 : Int32)), .unset, .unset, .unset, .unset, .unset]) rfl ?_
    show Steps p.tables e below (s₁.setTop (mkF m 7 #[.val (.int p0), .val (.int p1), .val (.int (0 : Int32)), .unset, .unset, .unset, .unset, .unset] [])) _
    refine XS.iloadN X0.here hx rfl (hb hby at_7) rfl ?_
    show Steps p.tables e below (s₁.setTop (mkF m 8 #[.val (.int p0), .val (.int p1), .val (.int (0 : Int32)), .unset, .unset, .unset, .unset, .unset] [(.int p1)])) _
    refine X0.ldcInt hx hown (mvT hZ (hw _ (List.mem_of_getElem? (i := 0) rfl))) (g := (mkF m 8 #[.val (.int p0), .val (.int p1), .val (.int (0 : Int32)), .unset, .unset, .unset, .unset, .unset] [(.int p1)])) rfl (hb hby at_8) _ ?_
    show Steps p.tables e below (s₁.setTop (mkF m 10 #[.val (.int p0), .val (.int p1), .val (.int (0 : Int32)), .unset, .unset, .unset, .unset, .unset] [(.int (2147483647 : Int32)), (.int p1)])) _
    refine XS.iand X0.here hx rfl (hb hby at_10) rfl ?_
    show Steps p.tables e below (s₁.setTop (mkF m 11 #[.val (.int p0), .val (.int p1), .val (.int (0 : Int32)), .unset, .unset, .unset, .unset, .unset] [(.int (p1 &&& (2147483647 : Int32)))])) _
    refine XS.iconst X0.here hx rfl (hb hby at_11) ?_
    show Steps p.tables e below (s₁.setTop (mkF m 12 #[.val (.int p0), .val (.int p1), .val (.int (0 : Int32)), .unset, .unset, .unset, .unset, .unset] [(.int (5 : Int32)), (.int (p1 &&& (2147483647 : Int32)))])) _
    refine iremM X0 hx rfl (hb hby at_12) rfl (by decide) ?_
    show Steps p.tables e below (s₁.setTop (mkF m 13 #[.val (.int p0), .val (.int p1), .val (.int (0 : Int32)), .unset, .unset, .unset, .unset, .unset] [(.int ((p1 &&& (2147483647 : Int32)) % (5 : Int32)))])) _
    rw [hk1]
    show Steps p.tables e below (s₁.setTop (mkF m 13 #[.val (.int p0), .val (.int p1), .val (.int (0 : Int32)), .unset, .unset, .unset, .unset, .unset] [(.int (1 : Int32))])) _
    refine XS.istoreN X0.here hx rfl (hb hby at_13) rfl (l' := #[.val (.int p0), .val (.int p1), .val (.int (0 : Int32)), .val (.int (1 : Int32)), .unset, .unset, .unset, .unset]) rfl ?_
    show Steps p.tables e below (s₁.setTop (mkF m 14 #[.val (.int p0), .val (.int p1), .val (.int (0 : Int32)), .val (.int (1 : Int32)), .unset, .unset, .unset, .unset] [])) _
    refine XS.iloadN X0.here hx rfl (hb hby at_14) rfl ?_
    show Steps p.tables e below (s₁.setTop (mkF m 15 #[.val (.int p0), .val (.int p1), .val (.int (0 : Int32)), .val (.int (1 : Int32)), .unset, .unset, .unset, .unset] [(.int (0 : Int32))])) _
    refine st1 _ ?_
    show Steps p.tables e below (T1.setTop (mkF m 18 #[.val (.int p0), .val (.int p1), .val (.int (0 : Int32)), .val (.int (1 : Int32)), .unset, .unset, .unset, .unset] [(.ref a_READ)])) _
    refine XS.astore X1.here hx rfl (hb hby at_18) rfl rfl (l' := #[.val (.int p0), .val (.int p1), .val (.int (0 : Int32)), .val (.int (1 : Int32)), .val (.ref a_READ), .unset, .unset, .unset]) rfl ?_
    show Steps p.tables e below (T1.setTop (mkF m 20 #[.val (.int p0), .val (.int p1), .val (.int (0 : Int32)), .val (.int (1 : Int32)), .val (.ref a_READ), .unset, .unset, .unset] [])) _
    refine XS.iloadN X1.here hx rfl (hb hby at_20) rfl ?_
    show Steps p.tables e below (T1.setTop (mkF m 21 #[.val (.int p0), .val (.int p1), .val (.int (0 : Int32)), .val (.int (1 : Int32)), .val (.ref a_READ), .unset, .unset, .unset] [(.int (1 : Int32))])) _
    refine st2 _ ?_
    show Steps p.tables e below (T2.setTop (mkF m 24 #[.val (.int p0), .val (.int p1), .val (.int (0 : Int32)), .val (.int (1 : Int32)), .val (.ref a_READ), .unset, .unset, .unset] [(.ref a_WRITE)])) _
    refine XS.astore X2.here hx rfl (hb hby at_24) rfl rfl (l' := #[.val (.int p0), .val (.int p1), .val (.int (0 : Int32)), .val (.int (1 : Int32)), .val (.ref a_READ), .val (.ref a_WRITE), .unset, .unset]) rfl ?_
    show Steps p.tables e below (T2.setTop (mkF m 26 #[.val (.int p0), .val (.int p1), .val (.int (0 : Int32)), .val (.int (1 : Int32)), .val (.ref a_READ), .val (.ref a_WRITE), .unset, .unset] [])) _
    refine st3 _ ?_
    show Steps p.tables e below (T3.setTop (mkF m 151 #[.val (.int p0), .val (.int p1), .val (.int (0 : Int32)), .val (.int (1 : Int32)), .val (.ref a_READ), .val (.ref a_WRITE), .val (.ref b3), .unset] [])) _
    refine XS.aload X3.here hx rfl (hb hby at_151) rfl rfl ?_
    show Steps p.tables e below (T3.setTop (mkF m 153 #[.val (.int p0), .val (.int p1), .val (.int (0 : Int32)), .val (.int (1 : Int32)), .val (.ref a_READ), .val (.ref a_WRITE), .val (.ref b3), .unset] [(.ref b3)])) _
    refine XS.iloadN X3.here hx rfl (hb hby at_153) rfl ?_
    show Steps p.tables e below (T3.setTop (mkF m 154 #[.val (.int p0), .val (.int p1), .val (.int (0 : Int32)), .val (.int (1 : Int32)), .val (.ref a_READ), .val (.ref a_WRITE), .val (.ref b3), .unset] [(.int (0 : Int32)), (.ref b3)])) _
    refine XS.iconst X3.here hx rfl (hb hby at_154) ?_
    show Steps p.tables e below (T3.setTop (mkF m 155 #[.val (.int p0), .val (.int p1), .val (.int (0 : Int32)), .val (.int (1 : Int32)), .val (.ref a_READ), .val (.ref a_WRITE), .val (.ref b3), .unset] [(.int (5 : Int32)), (.int (0 : Int32)), (.ref b3)])) _
    refine XS.imul X3.here hx rfl (hb hby at_155) rfl ?_
    show Steps p.tables e below (T3.setTop (mkF m 156 #[.val (.int p0), .val (.int p1), .val (.int (0 : Int32)), .val (.int (1 : Int32)), .val (.ref a_READ), .val (.ref a_WRITE), .val (.ref b3), .unset] [(.int ((0 : Int32) * (5 : Int32))), (.ref b3)])) _
    rw [(by decide : ((0 : Int32) * (5 : Int32)) = (0 : Int32))]
    show Steps p.tables e below (T3.setTop (mkF m 156 #[.val (.int p0), .val (.int p1), .val (.int (0 : Int32)), .val (.int (1 : Int32)), .val (.ref a_READ), .val (.ref a_WRITE), .val (.ref b3), .unset] [(.int (0 : Int32)), (.ref b3)])) _
    refine XS.iloadN X3.here hx rfl (hb hby at_156) rfl ?_
    show Steps p.tables e below (T3.setTop (mkF m 157 #[.val (.int p0), .val (.int p1), .val (.int (0 : Int32)), .val (.int (1 : Int32)), .val (.ref a_READ), .val (.ref a_WRITE), .val (.ref b3), .unset] [(.int (1 : Int32)), (.int (0 : Int32)), (.ref b3)])) _
    refine XS.iadd X3.here hx rfl (hb hby at_157) rfl ?_
    show Steps p.tables e below (T3.setTop (mkF m 158 #[.val (.int p0), .val (.int p1), .val (.int (0 : Int32)), .val (.int (1 : Int32)), .val (.ref a_READ), .val (.ref a_WRITE), .val (.ref b3), .unset] [(.int ((0 : Int32) + (1 : Int32))), (.ref b3)])) _
    rw [(by decide : ((0 : Int32) + (1 : Int32)) = (1 : Int32))]
    show Steps p.tables e below (T3.setTop (mkF m 158 #[.val (.int p0), .val (.int p1), .val (.int (0 : Int32)), .val (.int (1 : Int32)), .val (.ref a_READ), .val (.ref a_WRITE), .val (.ref b3), .unset] [(.int (1 : Int32)), (.ref b3)])) _
    refine X3.baloadBooleans hx (j := (1 : Int32)) (v := (.int (1 : Int32))) (by rw [e3]; exact r4.1) (State.isArrayOf_alike hZ.alike r4.2.1) r4.2.2 i4 y4 (g := (mkF m 158 #[.val (.int p0), .val (.int p1), .val (.int (0 : Int32)), .val (.int (1 : Int32)), .val (.ref a_READ), .val (.ref a_WRITE), .val (.ref b3), .unset] [(.int (1 : Int32)), (.ref b3)])) rfl rfl (hb hby at_158) _ ?_
    show Steps p.tables e below (T3.setTop (mkF m 159 #[.val (.int p0), .val (.int p1), .val (.int (0 : Int32)), .val (.int (1 : Int32)), .val (.ref a_READ), .val (.ref a_WRITE), .val (.ref b3), .unset] [(.int (1 : Int32))])) _
    refine XS.istore X3.here hx rfl (hb hby at_159) rfl (l' := #[.val (.int p0), .val (.int p1), .val (.int (0 : Int32)), .val (.int (1 : Int32)), .val (.ref a_READ), .val (.ref a_WRITE), .val (.ref b3), .val (.int (1 : Int32))]) rfl ?_
    show Steps p.tables e below (T3.setTop (mkF m 161 #[.val (.int p0), .val (.int p1), .val (.int (0 : Int32)), .val (.int (1 : Int32)), .val (.ref a_READ), .val (.ref a_WRITE), .val (.ref b3), .val (.int (1 : Int32))] [])) _
    refine XS.aload X3.here hx rfl (hb hby at_161) rfl rfl ?_
    show Steps p.tables e below (T3.setTop (mkF m 163 #[.val (.int p0), .val (.int p1), .val (.int (0 : Int32)), .val (.int (1 : Int32)), .val (.ref a_READ), .val (.ref a_WRITE), .val (.ref b3), .val (.int (1 : Int32))] [(.ref a_READ)])) _
    refine XS.aload X3.here hx rfl (hb hby at_163) rfl rfl ?_
    show Steps p.tables e below (T3.setTop (mkF m 165 #[.val (.int p0), .val (.int p1), .val (.int (0 : Int32)), .val (.int (1 : Int32)), .val (.ref a_READ), .val (.ref a_WRITE), .val (.ref b3), .val (.int (1 : Int32))] [(.ref a_WRITE), (.ref a_READ)])) _
    refine st5.trans ?_
    show Steps p.tables e below (T5.setTop (mkF m 168 #[.val (.int p0), .val (.int p1), .val (.int (0 : Int32)), .val (.int (1 : Int32)), .val (.ref a_READ), .val (.ref a_WRITE), .val (.ref b3), .val (.int (1 : Int32))] [(.int (1 : Int32))])) _
    refine XS.iload X5.here hx rfl (hb hby at_168) rfl ?_
    show Steps p.tables e below (T5.setTop (mkF m 170 #[.val (.int p0), .val (.int p1), .val (.int (0 : Int32)), .val (.int (1 : Int32)), .val (.ref a_READ), .val (.ref a_WRITE), .val (.ref b3), .val (.int (1 : Int32))] [(.int (1 : Int32)), (.int (1 : Int32))])) _
    refine XS.icmpNo X5.here hx rfl (hb hby at_170) rfl (by decide) ?_
    show Steps p.tables e below (T5.setTop (mkF m 173 #[.val (.int p0), .val (.int p1), .val (.int (0 : Int32)), .val (.int (1 : Int32)), .val (.ref a_READ), .val (.ref a_WRITE), .val (.ref b3), .val (.int (1 : Int32))] [])) _
    refine XS.iconst X5.here hx rfl (hb hby at_173) ?_
    show Steps p.tables e below (T5.setTop (mkF m 174 #[.val (.int p0), .val (.int p1), .val (.int (0 : Int32)), .val (.int (1 : Int32)), .val (.ref a_READ), .val (.ref a_WRITE), .val (.ref b3), .val (.int (1 : Int32))] [(.int (1 : Int32))])) _
    refine XS.goto X5.here hx rfl (pc0 := 174) (pc' := 178) rfl (hb hby at_174) (by decide) (by decide) ?_
    show Steps p.tables e below (T5.setTop (mkF m 178 #[.val (.int p0), .val (.int p1), .val (.int (0 : Int32)), .val (.int (1 : Int32)), .val (.ref a_READ), .val (.ref a_WRITE), .val (.ref b3), .val (.int (1 : Int32))] [(.int (1 : Int32))])) _
    exact retN X5 hx (t := .boolean) Bd.returns (by simp) (hb hby at_178) hr
  · exact ⟨rfl, N5⟩
set_option maxRecDepth 65536 in
set_option maxHeartbeats 40000000 in
theorem rm1_2 (l : Launch) (Z : State) (a0 : Array Value) (hw : ∀ d ∈ tables_1, d.before a0 Z = true) (ws : List Jvm.Cond) (p0 p1 : Int32) (a_READ a_COMMIT a_ABORT a_WRITE a_INCREMENT : Addr) (h0 : Heap) (n0 : Nat) (Z0 : n0 ≤ h0.size) (FF : Facts Z h0 a_READ a_COMMIT a_ABORT a_WRITE a_INCREMENT) :
    MetFree l (⟨"com/example/schedulock/schedulock/schedule/OperationKindConflictsWithPinLaw", "kind", "(I)Lcom/example/schedulock/schedulock/schedule/OperationKind;"⟩ : MethodName) (head1 (Jvm.Cond.code (⟨"com/example/schedulock/schedulock/schedule/OperationKindConflictsWithPinLaw", "kind", "(I)Lcom/example/schedulock/schedulock/schedule/OperationKind;"⟩ : MethodName) method_3_code 1 (some (.object "com/example/schedulock/schedulock/schedule/OperationKind")) :: ws) ({ frames := 0, cells := 0, slots := 0, locals := 0 } : Room)) (fun a U => a = #[(.int (2 : Int32))] ∧ Z.Warmed39 U.vm ∧ U.heap = h0) (fun _ _ _ _ _ => True) (fun _ U o U' => ∃ v L, o = .returned v ∧ own_Q (.ref a_INCREMENT) h0 n0 v U'.heap L ∧ FrameEnd U o U' L ({ frames := 0, cells := 0, slots := 0, locals := 0 } : Room).cells ({ frames := 0, cells := 0, slots := 0, locals := 0 } : Room).slots) := by
  refine MetFree.of_bodySF (plainFor_of_name pn_1) hisR ?_
  intro p e s m args below meth c s₁ Bd hml0 hP hK
  obtain ⟨rfl, hZ, hh⟩ := hP
  have hx := Bd.exec
  have hby := Bd.bytes
  have hml : c.maxLocals = 1 := hml0
  have hown : s.vm.findClass "com/example/schedulock/schedulock/schedule/OperationKindConflictsWithPinLaw" = some m.cls := findClass_of_methodNamed Bd.named
  have X0 : Stand p l e ({ frames := 0, cells := 0, slots := 0, locals := 0 } : Room) s m #[(.int (2 : Int32))] below meth c s₁ [] 0 0 := Stand.of_body Bd
  have e0 : s₁.heap = h0 := by rw [← hh, Bd.state]; rfl
  have N0 := Fr.nil n0
  have pre0 : ∀ t, Steps p.tables e below (s₁.setTop (mkF m 0 #[.val (.int (2 : Int32))] [])) t → Steps p.tables e below (s₁.setTop (entryFrame m #[(.int (2 : Int32))] 1)) t := fun t k => castTop (ef_1 m (2 : Int32)) k
  obtain ⟨T1, X1, e1, st1⟩ := getS2 X0 hx hZ hown (host := "") (Or.inl (hw _ (List.mem_of_getElem? (i := 24) rfl))) Via.refl e0 (fx_S_INCREMENT FF) (g := (mkF m 22 #[.val (.int (2 : Int32))] [])) rfl (hb hby d1_22)
  obtain ⟨fs, hr, hrun, hended, hW, hsame⟩ := X1.leave (v := some (.ref a_INCREMENT)) (fun h => by rw [Bd.returns] at h; cases h)
  refine ⟨_, _, pre0 _ ?_, hrun, hended, _, _, rfl, ?_, ⟨_, rfl⟩, hW, hsame.mono (by decide) (by decide)⟩
  · show Steps p.tables e below (s₁.setTop (mkF m 0 #[.val (.int (2 : Int32))] [])) _
    refine XS.iloadN X0.here hx rfl (hb hby d1_0) rfl ?_
    show Steps p.tables e below (s₁.setTop (mkF m 1 #[.val (.int (2 : Int32))] [(.int (2 : Int32))])) _
    refine XS.ifYes X0.here hx rfl (pc0 := 1) (pc' := 8) rfl (hb hby d1_1) rfl (by decide) (by decide) (by decide) ?_
    show Steps p.tables e below (s₁.setTop (mkF m 8 #[.val (.int (2 : Int32))] [])) _
    refine XS.iloadN X0.here hx rfl (hb hby d1_8) rfl ?_
    show Steps p.tables e below (s₁.setTop (mkF m 9 #[.val (.int (2 : Int32))] [(.int (2 : Int32))])) _
    refine XS.iconst X0.here hx rfl (hb hby d1_9) ?_
    show Steps p.tables e below (s₁.setTop (mkF m 10 #[.val (.int (2 : Int32))] [(.int (1 : Int32)), (.int (2 : Int32))])) _
    refine XS.icmpYes X0.here hx rfl (pc0 := 10) (pc' := 17) rfl (hb hby d1_10) rfl (by decide) (by decide) (by decide) ?_
    show Steps p.tables e below (s₁.setTop (mkF m 17 #[.val (.int (2 : Int32))] [])) _
    refine XS.iloadN X0.here hx rfl (hb hby d1_17) rfl ?_
    show Steps p.tables e below (s₁.setTop (mkF m 18 #[.val (.int (2 : Int32))] [(.int (2 : Int32))])) _
    refine XS.iconst X0.here hx rfl (hb hby d1_18) ?_
    show Steps p.tables e below (s₁.setTop (mkF m 19 #[.val (.int (2 : Int32))] [(.int (2 : Int32)), (.int (2 : Int32))])) _
    refine XS.icmpNo X0.here hx rfl (hb hby d1_19) rfl (by decide) ?_
    show Steps p.tables e below (s₁.setTop (mkF m 22 #[.val (.int (2 : Int32))] [])) _
    refine st1 _ ?_
    show Steps p.tables e below (T1.setTop (mkF m 25 #[.val (.int (2 : Int32))] [(.ref a_INCREMENT)])) _
    exact retOut X1 hx Bd.returns rfl (Or.inr (Or.inr (Or.inr (Or.inr ⟨rfl, rfl, rfl⟩)))) (hb hby d1_25) hr
  · show own_Q _ _ _ _ T1.heap _
    exact ⟨rfl, N0, e1⟩
set_option maxRecDepth 65536 in
set_option maxHeartbeats 40000000 in
theorem rm2_2 (l : Launch) (Z : State) (a0 : Array Value) (hw : ∀ d ∈ tables_1, d.before a0 Z = true) (ws : List Jvm.Cond) (p0 p1 : Int32) (a_READ a_COMMIT a_ABORT a_WRITE a_INCREMENT : Addr) (h0 : Heap) (n0 : Nat) (Z0 : n0 ≤ h0.size) (FF : Facts Z h0 a_READ a_COMMIT a_ABORT a_WRITE a_INCREMENT) :
    MetFree l (⟨"com/example/schedulock/schedulock/schedule/OperationKind", "conflictsWith", "(Lcom/example/schedulock/schedulock/schedule/OperationKind;)Z"⟩ : MethodName) (head1 (Jvm.Cond.code (⟨"com/example/schedulock/schedulock/schedule/OperationKind", "conflictsWith", "(Lcom/example/schedulock/schedulock/schedule/OperationKind;)Z"⟩ : MethodName) prog_31_method_5_code 2 (some .boolean) :: ws) ({ frames := 0, cells := 0, slots := 0, locals := 0 } : Room)) (fun a U => a = #[(.ref a_READ), (.ref a_INCREMENT)] ∧ Z.Warmed39 U.vm ∧ U.heap = h0) (fun _ _ _ _ _ => True) (fun _ U o U' => ∃ v L, o = .returned v ∧ own_Q (.int (1 : Int32)) h0 n0 v U'.heap L ∧ FrameEnd U o U' L ({ frames := 0, cells := 0, slots := 0, locals := 0 } : Room).cells ({ frames := 0, cells := 0, slots := 0, locals := 0 } : Room).slots) := by
  refine MetFree.of_bodySF (plainFor_of_name pn_2) hisR ?_
  intro p e s m args below meth c s₁ Bd hml0 hP hK
  obtain ⟨rfl, hZ, hh⟩ := hP
  have hx := Bd.exec
  have hby := Bd.bytes
  have hml : c.maxLocals = 2 := hml0
  have hown : s.vm.findClass "com/example/schedulock/schedulock/schedule/OperationKind" = some m.cls := findClass_of_methodNamed Bd.named
  have X0 : Stand p l e ({ frames := 0, cells := 0, slots := 0, locals := 0 } : Room) s m #[(.ref a_READ), (.ref a_INCREMENT)] below meth c s₁ [] 0 0 := Stand.of_body Bd
  have e0 : s₁.heap = h0 := by rw [← hh, Bd.state]; rfl
  have N0 := Fr.nil n0
  have pre0 : ∀ t, Steps p.tables e below (s₁.setTop (mkF m 0 #[.val (.ref a_READ), .val (.ref a_INCREMENT)] [])) t → Steps p.tables e below (s₁.setTop (entryFrame m #[(.ref a_READ), (.ref a_INCREMENT)] 2)) t := fun t k => castTop (ef_2 m a_READ a_INCREMENT) k
  obtain ⟨T1, X1, e1, st1⟩ := getF X0 hx hZ hown (host := "") (Or.inl (hw _ (List.mem_of_getElem? (i := 16) rfl))) Via.refl e0 (fx_F_READ_takesItem FF) (g := (mkF m 1 #[.val (.ref a_READ), .val (.ref a_INCREMENT)] [(.ref a_READ)])) rfl rfl (hb hby d2_1)
  obtain ⟨T2, X2, e2, st2⟩ := getF X1 hx hZ hown (host := "") (Or.inl (hw _ (List.mem_of_getElem? (i := 16) rfl))) Via.refl e1 (fx_F_INCREMENT_takesItem FF) (g := (mkF m 8 #[.val (.ref a_READ), .val (.ref a_INCREMENT)] [(.ref a_INCREMENT)])) rfl rfl (hb hby d2_8)
  obtain ⟨fs, hr, hrun, hended, hW, hsame⟩ := X2.leave (v := some (.int (1 : Int32))) (fun h => by rw [Bd.returns] at h; cases h)
  refine ⟨_, _, pre0 _ ?_, hrun, hended, _, _, rfl, ?_, ⟨_, rfl⟩, hW, hsame.mono (by decide) (by decide)⟩
  · show Steps p.tables e below (s₁.setTop (mkF m 0 #[.val (.ref a_READ), .val (.ref a_INCREMENT)] [])) _
    refine XS.aloadN X0.here hx rfl (hb hby d2_0) rfl rfl ?_
    show Steps p.tables e below (s₁.setTop (mkF m 1 #[.val (.ref a_READ), .val (.ref a_INCREMENT)] [(.ref a_READ)])) _
    refine st1 _ ?_
    show Steps p.tables e below (T1.setTop (mkF m 4 #[.val (.ref a_READ), .val (.ref a_INCREMENT)] [(.int (1 : Int32))])) _
    refine XS.ifNo X1.here hx rfl (hb hby d2_4) rfl (by decide) ?_
    show Steps p.tables e below (T1.setTop (mkF m 7 #[.val (.ref a_READ), .val (.ref a_INCREMENT)] [])) _
    refine XS.aloadN X1.here hx rfl (hb hby d2_7) rfl rfl ?_
    show Steps p.tables e below (T1.setTop (mkF m 8 #[.val (.ref a_READ), .val (.ref a_INCREMENT)] [(.ref a_INCREMENT)])) _
    refine st2 _ ?_
    show Steps p.tables e below (T2.setTop (mkF m 11 #[.val (.ref a_READ), .val (.ref a_INCREMENT)] [(.int (1 : Int32))])) _
    refine XS.ifNo X2.here hx rfl (hb hby d2_11) rfl (by decide) ?_
    show Steps p.tables e below (T2.setTop (mkF m 14 #[.val (.ref a_READ), .val (.ref a_INCREMENT)] [])) _
    refine XS.aloadN X2.here hx rfl (hb hby d2_14) rfl rfl ?_
    show Steps p.tables e below (T2.setTop (mkF m 15 #[.val (.ref a_READ), .val (.ref a_INCREMENT)] [(.ref a_READ)])) _
    refine XS.aloadN X2.here hx rfl (hb hby d2_15) rfl rfl ?_
    show Steps p.tables e below (T2.setTop (mkF m 16 #[.val (.ref a_READ), .val (.ref a_INCREMENT)] [(.ref a_INCREMENT), (.ref a_READ)])) _
    refine Jvm.RoadKit.acmp (g := (mkF m 16 #[.val (.ref a_READ), .val (.ref a_INCREMENT)] [(.ref a_INCREMENT), (.ref a_READ)])) X2 hx rfl rfl rfl (pc0 := 16) (pc' := 26) (same := false) rfl (hb hby d2_16) rfl (decide_eq_false fun q => Fld.ne (fx_F_READ_ordinal FF) (fx_F_INCREMENT_ordinal FF) (by decide) (Value.ref.inj q)) (by decide) (by decide) ?_
    show Steps p.tables e below (T2.setTop (mkF m 26 #[.val (.ref a_READ), .val (.ref a_INCREMENT)] [])) _
    refine XS.iconst X2.here hx rfl (hb hby d2_26) ?_
    show Steps p.tables e below (T2.setTop (mkF m 27 #[.val (.ref a_READ), .val (.ref a_INCREMENT)] [(.int (1 : Int32))])) _
    refine XS.goto X2.here hx rfl (pc0 := 27) (pc' := 31) rfl (hb hby d2_27) (by decide) (by decide) ?_
    show Steps p.tables e below (T2.setTop (mkF m 31 #[.val (.ref a_READ), .val (.ref a_INCREMENT)] [(.int (1 : Int32))])) _
    exact retN X2 hx (t := .boolean) Bd.returns (by simp) (hb hby d2_31) hr
  · show own_Q _ _ _ _ T2.heap _
    exact ⟨rfl, N0, e2⟩
set_option maxRecDepth 65536 in
set_option maxHeartbeats 40000000 in
theorem rm0_2 (l : Launch) (Z : State) (a0 : Array Value) (hw : ∀ d ∈ tables_1, d.before a0 Z = true) (ws : List Jvm.Cond) (p0 p1 : Int32) (a_READ a_COMMIT a_ABORT a_WRITE a_INCREMENT : Addr) (h0 : Heap) (n0 : Nat) (Z0 : n0 ≤ h0.size) (FF : Facts Z h0 a_READ a_COMMIT a_ABORT a_WRITE a_INCREMENT) (hk0 : ((p0 &&& (2147483647 : Int32)) % (5 : Int32)) = (0 : Int32)) (hk1 : ((p1 &&& (2147483647 : Int32)) % (5 : Int32)) = (2 : Int32)) :
    MetFree l x (head1 (Jvm.Cond.code x code maxLocals ret :: ws) room_1) (fun a U => a = #[(.int p0), (.int p1)] ∧ Z.Warmed39 U.vm ∧ U.heap = h0) (fun _ _ _ _ _ => True) (fun _ U o U' => ∃ v L, o = .returned v ∧ (v = some (.int (1 : Int32)) ∧ Fr n0 L) ∧ FrameEnd U o U' L room_1.cells room_1.slots) := by
  refine MetFree.of_bodySF (plainFor_of_name pn_0) hisR ?_
  intro p e s m args below meth c s₁ Bd hml0 hP hK
  obtain ⟨rfl, hZ, hh⟩ := hP
  have hx := Bd.exec
  have hby := Bd.bytes
  have hml : c.maxLocals = 8 := hml0
  have hown : s.vm.findClass "com/example/schedulock/schedulock/schedule/OperationKindConflictsWithPinLaw" = some m.cls := findClass_of_methodNamed Bd.named
  have X0 : Stand p l e room_1 s m #[(.int p0), (.int p1)] below meth c s₁ [] 0 0 := Stand.of_body Bd
  have e0 : s₁.heap = h0 := by rw [← hh, Bd.state]; rfl
  have N0 := Fr.nil n0
  have pre0 : ∀ t, Steps p.tables e below (s₁.setTop (mkF m 0 #[.val (.int p0), .val (.int p1), .unset, .unset, .unset, .unset, .unset, .unset] [])) t → Steps p.tables e below (s₁.setTop (entryFrame m #[(.int p0), (.int p1)] maxLocals)) t := fun t k => castTop (ef_0 m p0 p1) k
  obtain ⟨_, _, ⟨T1, L1, k1, n1⟩, -, X1, ⟨Lc1, hQ1, l1, y1, z1⟩, st1⟩ := Jvm.LawKit.callS X0 hx (y := (⟨"com/example/schedulock/schedulock/schedule/OperationKindConflictsWithPinLaw", "kind", "(I)Lcom/example/schedulock/schedulock/schedule/OperationKind;"⟩ : MethodName)) hown (mvT hZ (hw _ (List.mem_of_getElem? (i := 1) rfl))) (mvT hZ (hw _ (List.mem_of_getElem? (i := 2) rfl))) (mvT hZ (hw _ (List.mem_of_getElem? (i := 3) rfl))) (mvT hZ (hw _ (List.mem_of_getElem? (i := 4) rfl))) (by decide) (backOf (W := 0) (rm1_0 l Z a0 hw [] p0 p1 a_READ a_COMMIT a_ABORT a_WRITE a_INCREMENT h0 n0 (Nat.le_trans Z0 (Nat.le_refl _)) FF) hZ (hw _ (List.mem_of_getElem? (i := 4) rfl)) (hw _ (List.mem_of_getElem? (i := 3) rfl)) (by decide) (by decide)) (g := (mkF m 15 #[.val (.int p0), .val (.int p1), .val (.int (0 : Int32)), .val (.int (2 : Int32)), .unset, .unset, .unset, .unset] [(.int (0 : Int32))])) rfl (by rw [hml]; rfl) (argsL := [(.int (0 : Int32))]) (rest := []) (lenOf pd_0 rfl) rfl (by show 2 * 0 + _ ≤ _; exact Nat.le_of_eq rfl) (hb hby at_15) (fun _ _ => ⟨rfl, e0, (by decide : 0 + 0 ≤ _), (by decide : 0 + 0 ≤ _)⟩)
  dsimp only [Pt.U, Pt.locs, Pt.cells, Pt.slots] at X1 l1 y1 z1 st1 hQ1
  subst l1 y1 z1
  obtain ⟨rfl, N1q, e1⟩ := hQ1
  have N1 := Fr.app N0 N1q
  obtain ⟨_, _, ⟨T2, L2, k2, n2⟩, -, X2, ⟨Lc2, hQ2, l2, y2, z2⟩, st2⟩ := Jvm.LawKit.callS X1 hx (y := (⟨"com/example/schedulock/schedulock/schedule/OperationKindConflictsWithPinLaw", "kind", "(I)Lcom/example/schedulock/schedulock/schedule/OperationKind;"⟩ : MethodName)) hown (mvT hZ (hw _ (List.mem_of_getElem? (i := 1) rfl))) (mvT hZ (hw _ (List.mem_of_getElem? (i := 2) rfl))) (mvT hZ (hw _ (List.mem_of_getElem? (i := 3) rfl))) (mvT hZ (hw _ (List.mem_of_getElem? (i := 4) rfl))) (by decide) (backOf (W := 0) (rm1_2 l Z a0 hw [] p0 p1 a_READ a_COMMIT a_ABORT a_WRITE a_INCREMENT h0 n0 (Nat.le_trans Z0 (Nat.le_refl _)) FF) hZ (hw _ (List.mem_of_getElem? (i := 4) rfl)) (hw _ (List.mem_of_getElem? (i := 3) rfl)) (by decide) (by decide)) (g := (mkF m 21 #[.val (.int p0), .val (.int p1), .val (.int (0 : Int32)), .val (.int (2 : Int32)), .val (.ref a_READ), .unset, .unset, .unset] [(.int (2 : Int32))])) rfl (by rw [hml]; rfl) (argsL := [(.int (2 : Int32))]) (rest := []) (lenOf pd_0 rfl) rfl (by show 2 * 0 + _ ≤ _; exact Nat.le_of_eq rfl) (hb hby at_21) (fun _ _ => ⟨rfl, e1, (by decide : 0 + 0 ≤ _), (by decide : 0 + 0 ≤ _)⟩)
  dsimp only [Pt.U, Pt.locs, Pt.cells, Pt.slots] at X2 l2 y2 z2 st2 hQ2
  subst l2 y2 z2
  obtain ⟨rfl, N2q, e2⟩ := hQ2
  have N2 := Fr.app N1 N2q
  obtain ⟨T3, h3, b3, k3, lc3, X3, e3, s_b3, z3, N3, FF3, V3, st3⟩ := seg_0 (l := l) (Z := Z) hw a_READ a_COMMIT a_ABORT a_WRITE a_INCREMENT p0 p1 (0 : Int32) (2 : Int32) a_READ a_INCREMENT X2 hx hZ hby hml hown e2 Z0 N2 FF
  obtain ⟨c4, r4, -, S4, -, H4, -⟩ := V3
  have i4 : ¬ ((2 : Int32) < 0 ∨ c4.slots.size ≤ ((2 : Int32)).toNatClampNeg) := inb_of S4 ⟨by decide, by decide⟩
  have y4 : c4.slots[((2 : Int32)).toNatClampNeg]? = some (.int (1 : Int32)) := H4 2 (by rw [S4]; decide)
  obtain ⟨cq5, kq5, q5a, q5b, q5c⟩ := isOf hZ e3 (fx_E_READ FF3)
  obtain ⟨_, _, ⟨T5, L5, k5, n5⟩, -, X5, ⟨Lc5, hQ5, l5, y5, z5⟩, st5⟩ := X3.virtualBack hx (y := (⟨"com/example/schedulock/schedulock/schedule/OperationKind", "conflictsWith", "(Lcom/example/schedulock/schedulock/schedule/OperationKind;)Z"⟩ : MethodName)) (z := (⟨"com/example/schedulock/schedulock/schedule/OperationKind", "conflictsWith", "(Lcom/example/schedulock/schedulock/schedule/OperationKind;)Z"⟩ : MethodName)) hown (mvT hZ (hw _ (List.mem_of_getElem? (i := 11) rfl))) (mvT hZ (hw _ (List.mem_of_getElem? (i := 12) rfl))) (notFace_of_selects (args := #[]) (mvT hZ (hw _ (List.mem_of_getElem? (i := 14) rfl)))) (mvT hZ (hw _ (List.mem_of_getElem? (i := 14) rfl))) (mvT hZ (hw _ (List.mem_of_getElem? (i := 13) rfl))) (by decide) (backOf (W := 0) (rm2_2 l Z a0 hw [] p0 p1 a_READ a_COMMIT a_ABORT a_WRITE a_INCREMENT h3 n0 (Nat.le_trans Z0 z3) FF3) hZ (hw _ (List.mem_of_getElem? (i := 15) rfl)) (hw _ (List.mem_of_getElem? (i := 6) rfl)) (by decide) (by decide)) q5a q5c (g := (mkF m 165 #[.val (.int p0), .val (.int p1), .val (.int (0 : Int32)), .val (.int (2 : Int32)), .val (.ref a_READ), .val (.ref a_INCREMENT), .val (.ref b3), .val (.int (1 : Int32))] [(.ref a_INCREMENT), (.ref a_READ)])) rfl (by rw [hml]; rfl) (Steps.refl _) (argsL := [(.ref a_INCREMENT)]) (rest := []) (lenOf pd_1 rfl) rfl (by show 2 * 0 + _ ≤ _; exact Nat.le_of_eq rfl) (hb hby at_165) (fun _ _ => ⟨rfl, e3, (by decide : 1 + 0 ≤ _), (by decide : 25 + 0 ≤ _)⟩)
  dsimp only [Pt.U, Pt.locs, Pt.cells, Pt.slots] at X5 l5 y5 z5 st5 hQ5
  subst l5 y5 z5
  obtain ⟨rfl, N5q, e5⟩ := hQ5
  have N5 := Fr.app N3 N5q
  obtain ⟨fs, hr, hrun, hended, hW, hsame⟩ := X5.leave (v := some (.int (1 : Int32))) (fun h => by rw [Bd.returns] at h; cases h)
  refine ⟨_, _, pre0 _ ?_, hrun, hended, _, _, rfl, ?_, ⟨_, rfl⟩, hW, hsame.mono (by decide) (by decide)⟩
  · show Steps p.tables e below (s₁.setTop (mkF m 0 #[.val (.int p0), .val (.int p1), .unset, .unset, .unset, .unset, .unset, .unset] [])) _
    refine XS.iloadN X0.here hx rfl (hb hby at_0) rfl ?_
    show Steps p.tables e below (s₁.setTop (mkF m 1 #[.val (.int p0), .val (.int p1), .unset, .unset, .unset, .unset, .unset, .unset] [(.int p0)])) _
    refine X0.ldcInt hx hown (mvT hZ (hw _ (List.mem_of_getElem? (i := 0) rfl))) (g := (mkF m 1 #[.val (.int p0), .val (.int p1), .unset, .unset, .unset, .unset, .unset, .unset] [(.int p0)])) rfl (hb hby at_1) _ ?_
    show Steps p.tables e below (s₁.setTop (mkF m 3 #[.val (.int p0), .val (.int p1), .unset, .unset, .unset, .unset, .unset, .unset] [(.int (2147483647 : Int32)), (.int p0)])) _
    refine XS.iand X0.here hx rfl (hb hby at_3) rfl ?_
    show Steps p.tables e below (s₁.setTop (mkF m 4 #[.val (.int p0), .val (.int p1), .unset, .unset, .unset, .unset, .unset, .unset] [(.int (p0 &&& (2147483647 : Int32)))])) _
    refine XS.iconst X0.here hx rfl (hb hby at_4) ?_
    show Steps p.tables e below (s₁.setTop (mkF m 5 #[.val (.int p0), .val (.int p1), .unset, .unset, .unset, .unset, .unset, .unset] [(.int (5 : Int32)), (.int (p0 &&& (2147483647 : Int32)))])) _
    refine iremM X0 hx rfl (hb hby at_5) rfl (by decide) ?_
    show Steps p.tables e below (s₁.setTop (mkF m 6 #[.val (.int p0), .val (.int p1), .unset, .unset, .unset, .unset, .unset, .unset] [(.int ((p0 &&& (2147483647 : Int32)) % (5 : Int32)))])) _
    rw [hk0]
    show Steps p.tables e below (s₁.setTop (mkF m 6 #[.val (.int p0), .val (.int p1), .unset, .unset, .unset, .unset, .unset, .unset] [(.int (0 : Int32))])) _
    refine XS.istoreN X0.here hx rfl (hb hby at_6) rfl (l' := #[.val (.int p0), .val (.int p1), .val (.int (0 : Int32)), .unset, .unset, .unset, .unset, .unset]) rfl ?_
    show Steps p.tables e below (s₁.setTop (mkF m 7 #[.val (.int p0), .val (.int p1), .val (.int (0 : Int32)), .unset, .unset, .unset, .unset, .unset] [])) _
    refine XS.iloadN X0.here hx rfl (hb hby at_7) rfl ?_
    show Steps p.tables e below (s₁.setTop (mkF m 8 #[.val (.int p0), .val (.int p1), .val (.int (0 : Int32)), .unset, .unset, .unset, .unset, .unset] [(.int p1)])) _
    refine X0.ldcInt hx hown (mvT hZ (hw _ (List.mem_of_getElem? (i := 0) rfl))) (g := (mkF m 8 #[.val (.int p0), .val (.int p1), .val (.int (0 : Int32)), .unset, .unset, .unset, .unset, .unset] [(.int p1)])) rfl (hb hby at_8) _ ?_
    show Steps p.tables e below (s₁.setTop (mkF m 10 #[.val (.int p0), .val (.int p1), .val (.int (0 : Int32)), .unset, .unset, .unset, .unset, .unset] [(.int (2147483647 : Int32)), (.int p1)])) _
    refine XS.iand X0.here hx rfl (hb hby at_10) rfl ?_
    show Steps p.tables e below (s₁.setTop (mkF m 11 #[.val (.int p0), .val (.int p1), .val (.int (0 : Int32)), .unset, .unset, .unset, .unset, .unset] [(.int (p1 &&& (2147483647 : Int32)))])) _
    refine XS.iconst X0.here hx rfl (hb hby at_11) ?_
    show Steps p.tables e below (s₁.setTop (mkF m 12 #[.val (.int p0), .val (.int p1), .val (.int (0 : Int32)), .unset, .unset, .unset, .unset, .unset] [(.int (5 : Int32)), (.int (p1 &&& (2147483647 : Int32)))])) _
    refine iremM X0 hx rfl (hb hby at_12) rfl (by decide) ?_
    show Steps p.tables e below (s₁.setTop (mkF m 13 #[.val (.int p0), .val (.int p1), .val (.int (0 : Int32)), .unset, .unset, .unset, .unset, .unset] [(.int ((p1 &&& (2147483647 : Int32)) % (5 : Int32)))])) _
    rw [hk1]
    show Steps p.tables e below (s₁.setTop (mkF m 13 #[.val (.int p0), .val (.int p1), .val (.int (0 : Int32)), .unset, .unset, .unset, .unset, .unset] [(.int (2 : Int32))])) _
    refine XS.istoreN X0.here hx rfl (hb hby at_13) rfl (l' := #[.val (.int p0), .val (.int p1), .val (.int (0 : Int32)), .val (.int (2 : Int32)), .unset, .unset, .unset, .unset]) rfl ?_
    show Steps p.tables e below (s₁.setTop (mkF m 14 #[.val (.int p0), .val (.int p1), .val (.int (0 : Int32)), .val (.int (2 : Int32)), .unset, .unset, .unset, .unset] [])) _
    refine XS.iloadN X0.here hx rfl (hb hby at_14) rfl ?_
    show Steps p.tables e below (s₁.setTop (mkF m 15 #[.val (.int p0), .val (.int p1), .val (.int (0 : Int32)), .val (.int (2 : Int32)), .unset, .unset, .unset, .unset] [(.int (0 : Int32))])) _
    refine st1 _ ?_
    show Steps p.tables e below (T1.setTop (mkF m 18 #[.val (.int p0), .val (.int p1), .val (.int (0 : Int32)), .val (.int (2 : Int32)), .unset, .unset, .unset, .unset] [(.ref a_READ)])) _
    refine XS.astore X1.here hx rfl (hb hby at_18) rfl rfl (l' := #[.val (.int p0), .val (.int p1), .val (.int (0 : Int32)), .val (.int (2 : Int32)), .val (.ref a_READ), .unset, .unset, .unset]) rfl ?_
    show Steps p.tables e below (T1.setTop (mkF m 20 #[.val (.int p0), .val (.int p1), .val (.int (0 : Int32)), .val (.int (2 : Int32)), .val (.ref a_READ), .unset, .unset, .unset] [])) _
    refine XS.iloadN X1.here hx rfl (hb hby at_20) rfl ?_
    show Steps p.tables e below (T1.setTop (mkF m 21 #[.val (.int p0), .val (.int p1), .val (.int (0 : Int32)), .val (.int (2 : Int32)), .val (.ref a_READ), .unset, .unset, .unset] [(.int (2 : Int32))])) _
    refine st2 _ ?_
    show Steps p.tables e below (T2.setTop (mkF m 24 #[.val (.int p0), .val (.int p1), .val (.int (0 : Int32)), .val (.int (2 : Int32)), .val (.ref a_READ), .unset, .unset, .unset] [(.ref a_INCREMENT)])) _
    refine XS.astore X2.here hx rfl (hb hby at_24) rfl rfl (l' := #[.val (.int p0), .val (.int p1), .val (.int (0 : Int32)), .val (.int (2 : Int32)), .val (.ref a_READ), .val (.ref a_INCREMENT), .unset, .unset]) rfl ?_
    show Steps p.tables e below (T2.setTop (mkF m 26 #[.val (.int p0), .val (.int p1), .val (.int (0 : Int32)), .val (.int (2 : Int32)), .val (.ref a_READ), .val (.ref a_INCREMENT), .unset, .unset] [])) _
    refine st3 _ ?_
    show Steps p.tables e below (T3.setTop (mkF m 151 #[.val (.int p0), .val (.int p1), .val (.int (0 : Int32)), .val (.int (2 : Int32)), .val (.ref a_READ), .val (.ref a_INCREMENT), .val (.ref b3), .unset] [])) _
    refine XS.aload X3.here hx rfl (hb hby at_151) rfl rfl ?_
    show Steps p.tables e below (T3.setTop (mkF m 153 #[.val (.int p0), .val (.int p1), .val (.int (0 : Int32)), .val (.int (2 : Int32)), .val (.ref a_READ), .val (.ref a_INCREMENT), .val (.ref b3), .unset] [(.ref b3)])) _
    refine XS.iloadN X3.here hx rfl (hb hby at_153) rfl ?_
    show Steps p.tables e below (T3.setTop (mkF m 154 #[.val (.int p0), .val (.int p1), .val (.int (0 : Int32)), .val (.int (2 : Int32)), .val (.ref a_READ), .val (.ref a_INCREMENT), .val (.ref b3), .unset] [(.int (0 : Int32)), (.ref b3)])) _
    refine XS.iconst X3.here hx rfl (hb hby at_154) ?_
    show Steps p.tables e below (T3.setTop (mkF m 155 #[.val (.int p0), .val (.int p1), .val (.int (0 : Int32)), .val (.int (2 : Int32)), .val (.ref a_READ), .val (.ref a_INCREMENT), .val (.ref b3), .unset] [(.int (5 : Int32)), (.int (0 : Int32)), (.ref b3)])) _
    refine XS.imul X3.here hx rfl (hb hby at_155) rfl ?_
    show Steps p.tables e below (T3.setTop (mkF m 156 #[.val (.int p0), .val (.int p1), .val (.int (0 : Int32)), .val (.int (2 : Int32)), .val (.ref a_READ), .val (.ref a_INCREMENT), .val (.ref b3), .unset] [(.int ((0 : Int32) * (5 : Int32))), (.ref b3)])) _
    rw [(by decide : ((0 : Int32) * (5 : Int32)) = (0 : Int32))]
    show Steps p.tables e below (T3.setTop (mkF m 156 #[.val (.int p0), .val (.int p1), .val (.int (0 : Int32)), .val (.int (2 : Int32)), .val (.ref a_READ), .val (.ref a_INCREMENT), .val (.ref b3), .unset] [(.int (0 : Int32)), (.ref b3)])) _
    refine XS.iloadN X3.here hx rfl (hb hby at_156) rfl ?_
    show Steps p.tables e below (T3.setTop (mkF m 157 #[.val (.int p0), .val (.int p1), .val (.int (0 : Int32)), .val (.int (2 : Int32)), .val (.ref a_READ), .val (.ref a_INCREMENT), .val (.ref b3), .unset] [(.int (2 : Int32)), (.int (0 : Int32)), (.ref b3)])) _
    refine XS.iadd X3.here hx rfl (hb hby at_157) rfl ?_
    show Steps p.tables e below (T3.setTop (mkF m 158 #[.val (.int p0), .val (.int p1), .val (.int (0 : Int32)), .val (.int (2 : Int32)), .val (.ref a_READ), .val (.ref a_INCREMENT), .val (.ref b3), .unset] [(.int ((0 : Int32) + (2 : Int32))), (.ref b3)])) _
    rw [(by decide : ((0 : Int32) + (2 : Int32)) = (2 : Int32))]
    show Steps p.tables e below (T3.setTop (mkF m 158 #[.val (.int p0), .val (.int p1), .val (.int (0 : Int32)), .val (.int (2 : Int32)), .val (.ref a_READ), .val (.ref a_INCREMENT), .val (.ref b3), .unset] [(.int (2 : Int32)), (.ref b3)])) _
    refine X3.baloadBooleans hx (j := (2 : Int32)) (v := (.int (1 : Int32))) (by rw [e3]; exact r4.1) (State.isArrayOf_alike hZ.alike r4.2.1) r4.2.2 i4 y4 (g := (mkF m 158 #[.val (.int p0), .val (.int p1), .val (.int (0 : Int32)), .val (.int (2 : Int32)), .val (.ref a_READ), .val (.ref a_INCREMENT), .val (.ref b3), .unset] [(.int (2 : Int32)), (.ref b3)])) rfl rfl (hb hby at_158) _ ?_
    show Steps p.tables e below (T3.setTop (mkF m 159 #[.val (.int p0), .val (.int p1), .val (.int (0 : Int32)), .val (.int (2 : Int32)), .val (.ref a_READ), .val (.ref a_INCREMENT), .val (.ref b3), .unset] [(.int (1 : Int32))])) _
    refine XS.istore X3.here hx rfl (hb hby at_159) rfl (l' := #[.val (.int p0), .val (.int p1), .val (.int (0 : Int32)), .val (.int (2 : Int32)), .val (.ref a_READ), .val (.ref a_INCREMENT), .val (.ref b3), .val (.int (1 : Int32))]) rfl ?_
    show Steps p.tables e below (T3.setTop (mkF m 161 #[.val (.int p0), .val (.int p1), .val (.int (0 : Int32)), .val (.int (2 : Int32)), .val (.ref a_READ), .val (.ref a_INCREMENT), .val (.ref b3), .val (.int (1 : Int32))] [])) _
    refine XS.aload X3.here hx rfl (hb hby at_161) rfl rfl ?_
    show Steps p.tables e below (T3.setTop (mkF m 163 #[.val (.int p0), .val (.int p1), .val (.int (0 : Int32)), .val (.int (2 : Int32)), .val (.ref a_READ), .val (.ref a_INCREMENT), .val (.ref b3), .val (.int (1 : Int32))] [(.ref a_READ)])) _
    refine XS.aload X3.here hx rfl (hb hby at_163) rfl rfl ?_
    show Steps p.tables e below (T3.setTop (mkF m 165 #[.val (.int p0), .val (.int p1), .val (.int (0 : Int32)), .val (.int (2 : Int32)), .val (.ref a_READ), .val (.ref a_INCREMENT), .val (.ref b3), .val (.int (1 : Int32))] [(.ref a_INCREMENT), (.ref a_READ)])) _
    refine st5.trans ?_
    show Steps p.tables e below (T5.setTop (mkF m 168 #[.val (.int p0), .val (.int p1), .val (.int (0 : Int32)), .val (.int (2 : Int32)), .val (.ref a_READ), .val (.ref a_INCREMENT), .val (.ref b3), .val (.int (1 : Int32))] [(.int (1 : Int32))])) _
    refine XS.iload X5.here hx rfl (hb hby at_168) rfl ?_
    show Steps p.tables e below (T5.setTop (mkF m 170 #[.val (.int p0), .val (.int p1), .val (.int (0 : Int32)), .val (.int (2 : Int32)), .val (.ref a_READ), .val (.ref a_INCREMENT), .val (.ref b3), .val (.int (1 : Int32))] [(.int (1 : Int32)), (.int (1 : Int32))])) _
    refine XS.icmpNo X5.here hx rfl (hb hby at_170) rfl (by decide) ?_
    show Steps p.tables e below (T5.setTop (mkF m 173 #[.val (.int p0), .val (.int p1), .val (.int (0 : Int32)), .val (.int (2 : Int32)), .val (.ref a_READ), .val (.ref a_INCREMENT), .val (.ref b3), .val (.int (1 : Int32))] [])) _
    refine XS.iconst X5.here hx rfl (hb hby at_173) ?_
    show Steps p.tables e below (T5.setTop (mkF m 174 #[.val (.int p0), .val (.int p1), .val (.int (0 : Int32)), .val (.int (2 : Int32)), .val (.ref a_READ), .val (.ref a_INCREMENT), .val (.ref b3), .val (.int (1 : Int32))] [(.int (1 : Int32))])) _
    refine XS.goto X5.here hx rfl (pc0 := 174) (pc' := 178) rfl (hb hby at_174) (by decide) (by decide) ?_
    show Steps p.tables e below (T5.setTop (mkF m 178 #[.val (.int p0), .val (.int p1), .val (.int (0 : Int32)), .val (.int (2 : Int32)), .val (.ref a_READ), .val (.ref a_INCREMENT), .val (.ref b3), .val (.int (1 : Int32))] [(.int (1 : Int32))])) _
    exact retN X5 hx (t := .boolean) Bd.returns (by simp) (hb hby at_178) hr
  · exact ⟨rfl, N5⟩
set_option maxRecDepth 65536 in
set_option maxHeartbeats 40000000 in
theorem rm1_3 (l : Launch) (Z : State) (a0 : Array Value) (hw : ∀ d ∈ tables_1, d.before a0 Z = true) (ws : List Jvm.Cond) (p0 p1 : Int32) (a_READ a_COMMIT a_ABORT a_WRITE a_INCREMENT : Addr) (h0 : Heap) (n0 : Nat) (Z0 : n0 ≤ h0.size) (FF : Facts Z h0 a_READ a_COMMIT a_ABORT a_WRITE a_INCREMENT) :
    MetFree l (⟨"com/example/schedulock/schedulock/schedule/OperationKindConflictsWithPinLaw", "kind", "(I)Lcom/example/schedulock/schedulock/schedule/OperationKind;"⟩ : MethodName) (head1 (Jvm.Cond.code (⟨"com/example/schedulock/schedulock/schedule/OperationKindConflictsWithPinLaw", "kind", "(I)Lcom/example/schedulock/schedulock/schedule/OperationKind;"⟩ : MethodName) method_3_code 1 (some (.object "com/example/schedulock/schedulock/schedule/OperationKind")) :: ws) ({ frames := 0, cells := 0, slots := 0, locals := 0 } : Room)) (fun a U => a = #[(.int (3 : Int32))] ∧ Z.Warmed39 U.vm ∧ U.heap = h0) (fun _ _ _ _ _ => True) (fun _ U o U' => ∃ v L, o = .returned v ∧ own_Q (.ref a_COMMIT) h0 n0 v U'.heap L ∧ FrameEnd U o U' L ({ frames := 0, cells := 0, slots := 0, locals := 0 } : Room).cells ({ frames := 0, cells := 0, slots := 0, locals := 0 } : Room).slots) := by
  refine MetFree.of_bodySF (plainFor_of_name pn_1) hisR ?_
  intro p e s m args below meth c s₁ Bd hml0 hP hK
  obtain ⟨rfl, hZ, hh⟩ := hP
  have hx := Bd.exec
  have hby := Bd.bytes
  have hml : c.maxLocals = 1 := hml0
  have hown : s.vm.findClass "com/example/schedulock/schedulock/schedule/OperationKindConflictsWithPinLaw" = some m.cls := findClass_of_methodNamed Bd.named
  have X0 : Stand p l e ({ frames := 0, cells := 0, slots := 0, locals := 0 } : Room) s m #[(.int (3 : Int32))] below meth c s₁ [] 0 0 := Stand.of_body Bd
  have e0 : s₁.heap = h0 := by rw [← hh, Bd.state]; rfl
  have N0 := Fr.nil n0
  have pre0 : ∀ t, Steps p.tables e below (s₁.setTop (mkF m 0 #[.val (.int (3 : Int32))] [])) t → Steps p.tables e below (s₁.setTop (entryFrame m #[(.int (3 : Int32))] 1)) t := fun t k => castTop (ef_1 m (3 : Int32)) k
  obtain ⟨T1, X1, e1, st1⟩ := getS2 X0 hx hZ hown (host := "") (Or.inl (hw _ (List.mem_of_getElem? (i := 8) rfl))) Via.refl e0 (fx_S_COMMIT FF) (g := (mkF m 31 #[.val (.int (3 : Int32))] [])) rfl (hb hby d1_31)
  obtain ⟨fs, hr, hrun, hended, hW, hsame⟩ := X1.leave (v := some (.ref a_COMMIT)) (fun h => by rw [Bd.returns] at h; cases h)
  refine ⟨_, _, pre0 _ ?_, hrun, hended, _, _, rfl, ?_, ⟨_, rfl⟩, hW, hsame.mono (by decide) (by decide)⟩
  · show Steps p.tables e below (s₁.setTop (mkF m 0 #[.val (.int (3 : Int32))] [])) _
    refine XS.iloadN X0.here hx rfl (hb hby d1_0) rfl ?_
    show Steps p.tables e below (s₁.setTop (mkF m 1 #[.val (.int (3 : Int32))] [(.int (3 : Int32))])) _
    refine XS.ifYes X0.here hx rfl (pc0 := 1) (pc' := 8) rfl (hb hby d1_1) rfl (by decide) (by decide) (by decide) ?_
    show Steps p.tables e below (s₁.setTop (mkF m 8 #[.val (.int (3 : Int32))] [])) _
    refine XS.iloadN X0.here hx rfl (hb hby d1_8) rfl ?_
    show Steps p.tables e below (s₁.setTop (mkF m 9 #[.val (.int (3 : Int32))] [(.int (3 : Int32))])) _
    refine XS.iconst X0.here hx rfl (hb hby d1_9) ?_
    show Steps p.tables e below (s₁.setTop (mkF m 10 #[.val (.int (3 : Int32))] [(.int (1 : Int32)), (.int (3 : Int32))])) _
    refine XS.icmpYes X0.here hx rfl (pc0 := 10) (pc' := 17) rfl (hb hby d1_10) rfl (by decide) (by decide) (by decide) ?_
    show Steps p.tables e below (s₁.setTop (mkF m 17 #[.val (.int (3 : Int32))] [])) _
    refine XS.iloadN X0.here hx rfl (hb hby d1_17) rfl ?_
    show Steps p.tables e below (s₁.setTop (mkF m 18 #[.val (.int (3 : Int32))] [(.int (3 : Int32))])) _
    refine XS.iconst X0.here hx rfl (hb hby d1_18) ?_
    show Steps p.tables e below (s₁.setTop (mkF m 19 #[.val (.int (3 : Int32))] [(.int (2 : Int32)), (.int (3 : Int32))])) _
    refine XS.icmpYes X0.here hx rfl (pc0 := 19) (pc' := 26) rfl (hb hby d1_19) rfl (by decide) (by decide) (by decide) ?_
    show Steps p.tables e below (s₁.setTop (mkF m 26 #[.val (.int (3 : Int32))] [])) _
    refine XS.iloadN X0.here hx rfl (hb hby d1_26) rfl ?_
    show Steps p.tables e below (s₁.setTop (mkF m 27 #[.val (.int (3 : Int32))] [(.int (3 : Int32))])) _
    refine XS.iconst X0.here hx rfl (hb hby d1_27) ?_
    show Steps p.tables e below (s₁.setTop (mkF m 28 #[.val (.int (3 : Int32))] [(.int (3 : Int32)), (.int (3 : Int32))])) _
    refine XS.icmpNo X0.here hx rfl (hb hby d1_28) rfl (by decide) ?_
    show Steps p.tables e below (s₁.setTop (mkF m 31 #[.val (.int (3 : Int32))] [])) _
    refine st1 _ ?_
    show Steps p.tables e below (T1.setTop (mkF m 34 #[.val (.int (3 : Int32))] [(.ref a_COMMIT)])) _
    exact retOut X1 hx Bd.returns rfl (Or.inr (Or.inr (Or.inr (Or.inr ⟨rfl, rfl, rfl⟩)))) (hb hby d1_34) hr
  · show own_Q _ _ _ _ T1.heap _
    exact ⟨rfl, N0, e1⟩
set_option maxRecDepth 65536 in
set_option maxHeartbeats 40000000 in
theorem rm2_3 (l : Launch) (Z : State) (a0 : Array Value) (hw : ∀ d ∈ tables_1, d.before a0 Z = true) (ws : List Jvm.Cond) (p0 p1 : Int32) (a_READ a_COMMIT a_ABORT a_WRITE a_INCREMENT : Addr) (h0 : Heap) (n0 : Nat) (Z0 : n0 ≤ h0.size) (FF : Facts Z h0 a_READ a_COMMIT a_ABORT a_WRITE a_INCREMENT) :
    MetFree l (⟨"com/example/schedulock/schedulock/schedule/OperationKind", "conflictsWith", "(Lcom/example/schedulock/schedulock/schedule/OperationKind;)Z"⟩ : MethodName) (head1 (Jvm.Cond.code (⟨"com/example/schedulock/schedulock/schedule/OperationKind", "conflictsWith", "(Lcom/example/schedulock/schedulock/schedule/OperationKind;)Z"⟩ : MethodName) prog_31_method_5_code 2 (some .boolean) :: ws) ({ frames := 0, cells := 0, slots := 0, locals := 0 } : Room)) (fun a U => a = #[(.ref a_READ), (.ref a_COMMIT)] ∧ Z.Warmed39 U.vm ∧ U.heap = h0) (fun _ _ _ _ _ => True) (fun _ U o U' => ∃ v L, o = .returned v ∧ own_Q (.int (0 : Int32)) h0 n0 v U'.heap L ∧ FrameEnd U o U' L ({ frames := 0, cells := 0, slots := 0, locals := 0 } : Room).cells ({ frames := 0, cells := 0, slots := 0, locals := 0 } : Room).slots) := by
  refine MetFree.of_bodySF (plainFor_of_name pn_2) hisR ?_
  intro p e s m args below meth c s₁ Bd hml0 hP hK
  obtain ⟨rfl, hZ, hh⟩ := hP
  have hx := Bd.exec
  have hby := Bd.bytes
  have hml : c.maxLocals = 2 := hml0
  have hown : s.vm.findClass "com/example/schedulock/schedulock/schedule/OperationKind" = some m.cls := findClass_of_methodNamed Bd.named
  have X0 : Stand p l e ({ frames := 0, cells := 0, slots := 0, locals := 0 } : Room) s m #[(.ref a_READ), (.ref a_COMMIT)] below meth c s₁ [] 0 0 := Stand.of_body Bd
  have e0 : s₁.heap = h0 := by rw [← hh, Bd.state]; rfl
  have N0 := Fr.nil n0
  have pre0 : ∀ t, Steps p.tables e below (s₁.setTop (mkF m 0 #[.val (.ref a_READ), .val (.ref a_COMMIT)] [])) t → Steps p.tables e below (s₁.setTop (entryFrame m #[(.ref a_READ), (.ref a_COMMIT)] 2)) t := fun t k => castTop (ef_2 m a_READ a_COMMIT) k
  obtain ⟨T1, X1, e1, st1⟩ := getF X0 hx hZ hown (host := "") (Or.inl (hw _ (List.mem_of_getElem? (i := 16) rfl))) Via.refl e0 (fx_F_READ_takesItem FF) (g := (mkF m 1 #[.val (.ref a_READ), .val (.ref a_COMMIT)] [(.ref a_READ)])) rfl rfl (hb hby d2_1)
  obtain ⟨T2, X2, e2, st2⟩ := getF X1 hx hZ hown (host := "") (Or.inl (hw _ (List.mem_of_getElem? (i := 16) rfl))) Via.refl e1 (fx_F_COMMIT_takesItem FF) (g := (mkF m 8 #[.val (.ref a_READ), .val (.ref a_COMMIT)] [(.ref a_COMMIT)])) rfl rfl (hb hby d2_8)
  obtain ⟨fs, hr, hrun, hended, hW, hsame⟩ := X2.leave (v := some (.int (0 : Int32))) (fun h => by rw [Bd.returns] at h; cases h)
  refine ⟨_, _, pre0 _ ?_, hrun, hended, _, _, rfl, ?_, ⟨_, rfl⟩, hW, hsame.mono (by decide) (by decide)⟩
  · show Steps p.tables e below (s₁.setTop (mkF m 0 #[.val (.ref a_READ), .val (.ref a_COMMIT)] [])) _
    refine XS.aloadN X0.here hx rfl (hb hby d2_0) rfl rfl ?_
    show Steps p.tables e below (s₁.setTop (mkF m 1 #[.val (.ref a_READ), .val (.ref a_COMMIT)] [(.ref a_READ)])) _
    refine st1 _ ?_
    show Steps p.tables e below (T1.setTop (mkF m 4 #[.val (.ref a_READ), .val (.ref a_COMMIT)] [(.int (1 : Int32))])) _
    refine XS.ifNo X1.here hx rfl (hb hby d2_4) rfl (by decide) ?_
    show Steps p.tables e below (T1.setTop (mkF m 7 #[.val (.ref a_READ), .val (.ref a_COMMIT)] [])) _
    refine XS.aloadN X1.here hx rfl (hb hby d2_7) rfl rfl ?_
    show Steps p.tables e below (T1.setTop (mkF m 8 #[.val (.ref a_READ), .val (.ref a_COMMIT)] [(.ref a_COMMIT)])) _
    refine st2 _ ?_
    show Steps p.tables e below (T2.setTop (mkF m 11 #[.val (.ref a_READ), .val (.ref a_COMMIT)] [(.int (0 : Int32))])) _
    refine XS.ifYes X2.here hx rfl (pc0 := 11) (pc' := 30) rfl (hb hby d2_11) rfl (by decide) (by decide) (by decide) ?_
    show Steps p.tables e below (T2.setTop (mkF m 30 #[.val (.ref a_READ), .val (.ref a_COMMIT)] [])) _
    refine XS.iconst X2.here hx rfl (hb hby d2_30) ?_
    show Steps p.tables e below (T2.setTop (mkF m 31 #[.val (.ref a_READ), .val (.ref a_COMMIT)] [(.int (0 : Int32))])) _
    exact retN X2 hx (t := .boolean) Bd.returns (by simp) (hb hby d2_31) hr
  · show own_Q _ _ _ _ T2.heap _
    exact ⟨rfl, N0, e2⟩
set_option maxRecDepth 65536 in
set_option maxHeartbeats 40000000 in
theorem rm0_3 (l : Launch) (Z : State) (a0 : Array Value) (hw : ∀ d ∈ tables_1, d.before a0 Z = true) (ws : List Jvm.Cond) (p0 p1 : Int32) (a_READ a_COMMIT a_ABORT a_WRITE a_INCREMENT : Addr) (h0 : Heap) (n0 : Nat) (Z0 : n0 ≤ h0.size) (FF : Facts Z h0 a_READ a_COMMIT a_ABORT a_WRITE a_INCREMENT) (hk0 : ((p0 &&& (2147483647 : Int32)) % (5 : Int32)) = (0 : Int32)) (hk1 : ((p1 &&& (2147483647 : Int32)) % (5 : Int32)) = (3 : Int32)) :
    MetFree l x (head1 (Jvm.Cond.code x code maxLocals ret :: ws) room_1) (fun a U => a = #[(.int p0), (.int p1)] ∧ Z.Warmed39 U.vm ∧ U.heap = h0) (fun _ _ _ _ _ => True) (fun _ U o U' => ∃ v L, o = .returned v ∧ (v = some (.int (1 : Int32)) ∧ Fr n0 L) ∧ FrameEnd U o U' L room_1.cells room_1.slots) := by
  refine MetFree.of_bodySF (plainFor_of_name pn_0) hisR ?_
  intro p e s m args below meth c s₁ Bd hml0 hP hK
  obtain ⟨rfl, hZ, hh⟩ := hP
  have hx := Bd.exec
  have hby := Bd.bytes
  have hml : c.maxLocals = 8 := hml0
  have hown : s.vm.findClass "com/example/schedulock/schedulock/schedule/OperationKindConflictsWithPinLaw" = some m.cls := findClass_of_methodNamed Bd.named
  have X0 : Stand p l e room_1 s m #[(.int p0), (.int p1)] below meth c s₁ [] 0 0 := Stand.of_body Bd
  have e0 : s₁.heap = h0 := by rw [← hh, Bd.state]; rfl
  have N0 := Fr.nil n0
  have pre0 : ∀ t, Steps p.tables e below (s₁.setTop (mkF m 0 #[.val (.int p0), .val (.int p1), .unset, .unset, .unset, .unset, .unset, .unset] [])) t → Steps p.tables e below (s₁.setTop (entryFrame m #[(.int p0), (.int p1)] maxLocals)) t := fun t k => castTop (ef_0 m p0 p1) k
  obtain ⟨_, _, ⟨T1, L1, k1, n1⟩, -, X1, ⟨Lc1, hQ1, l1, y1, z1⟩, st1⟩ := Jvm.LawKit.callS X0 hx (y := (⟨"com/example/schedulock/schedulock/schedule/OperationKindConflictsWithPinLaw", "kind", "(I)Lcom/example/schedulock/schedulock/schedule/OperationKind;"⟩ : MethodName)) hown (mvT hZ (hw _ (List.mem_of_getElem? (i := 1) rfl))) (mvT hZ (hw _ (List.mem_of_getElem? (i := 2) rfl))) (mvT hZ (hw _ (List.mem_of_getElem? (i := 3) rfl))) (mvT hZ (hw _ (List.mem_of_getElem? (i := 4) rfl))) (by decide) (backOf (W := 0) (rm1_0 l Z a0 hw [] p0 p1 a_READ a_COMMIT a_ABORT a_WRITE a_INCREMENT h0 n0 (Nat.le_trans Z0 (Nat.le_refl _)) FF) hZ (hw _ (List.mem_of_getElem? (i := 4) rfl)) (hw _ (List.mem_of_getElem? (i := 3) rfl)) (by decide) (by decide)) (g := (mkF m 15 #[.val (.int p0), .val (.int p1), .val (.int (0 : Int32)), .val (.int (3 : Int32)), .unset, .unset, .unset, .unset] [(.int (0 : Int32))])) rfl (by rw [hml]; rfl) (argsL := [(.int (0 : Int32))]) (rest := []) (lenOf pd_0 rfl) rfl (by show 2 * 0 + _ ≤ _; exact Nat.le_of_eq rfl) (hb hby at_15) (fun _ _ => ⟨rfl, e0, (by decide : 0 + 0 ≤ _), (by decide : 0 + 0 ≤ _)⟩)
  dsimp only [Pt.U, Pt.locs, Pt.cells, Pt.slots] at X1 l1 y1 z1 st1 hQ1
  subst l1 y1 z1
  obtain ⟨rfl, N1q, e1⟩ := hQ1
  have N1 := Fr.app N0 N1q
  obtain ⟨_, _, ⟨T2, L2, k2, n2⟩, -, X2, ⟨Lc2, hQ2, l2, y2, z2⟩, st2⟩ := Jvm.LawKit.callS X1 hx (y := (⟨"com/example/schedulock/schedulock/schedule/OperationKindConflictsWithPinLaw", "kind", "(I)Lcom/example/schedulock/schedulock/schedule/OperationKind;"⟩ : MethodName)) hown (mvT hZ (hw _ (List.mem_of_getElem? (i := 1) rfl))) (mvT hZ (hw _ (List.mem_of_getElem? (i := 2) rfl))) (mvT hZ (hw _ (List.mem_of_getElem? (i := 3) rfl))) (mvT hZ (hw _ (List.mem_of_getElem? (i := 4) rfl))) (by decide) (backOf (W := 0) (rm1_3 l Z a0 hw [] p0 p1 a_READ a_COMMIT a_ABORT a_WRITE a_INCREMENT h0 n0 (Nat.le_trans Z0 (Nat.le_refl _)) FF) hZ (hw _ (List.mem_of_getElem? (i := 4) rfl)) (hw _ (List.mem_of_getElem? (i := 3) rfl)) (by decide) (by decide)) (g := (mkF m 21 #[.val (.int p0), .val (.int p1), .val (.int (0 : Int32)), .val (.int (3 : Int32)), .val (.ref a_READ), .unset, .unset, .unset] [(.int (3 : Int32))])) rfl (by rw [hml]; rfl) (argsL := [(.int (3 : Int32))]) (rest := []) (lenOf pd_0 rfl) rfl (by show 2 * 0 + _ ≤ _; exact Nat.le_of_eq rfl) (hb hby at_21) (fun _ _ => ⟨rfl, e1, (by decide : 0 + 0 ≤ _), (by decide : 0 + 0 ≤ _)⟩)
  dsimp only [Pt.U, Pt.locs, Pt.cells, Pt.slots] at X2 l2 y2 z2 st2 hQ2
  subst l2 y2 z2
  obtain ⟨rfl, N2q, e2⟩ := hQ2
  have N2 := Fr.app N1 N2q
  obtain ⟨T3, h3, b3, k3, lc3, X3, e3, s_b3, z3, N3, FF3, V3, st3⟩ := seg_0 (l := l) (Z := Z) hw a_READ a_COMMIT a_ABORT a_WRITE a_INCREMENT p0 p1 (0 : Int32) (3 : Int32) a_READ a_COMMIT X2 hx hZ hby hml hown e2 Z0 N2 FF
  obtain ⟨c4, r4, -, S4, -, H4, -⟩ := V3
  have i4 : ¬ ((3 : Int32) < 0 ∨ c4.slots.size ≤ ((3 : Int32)).toNatClampNeg) := inb_of S4 ⟨by decide, by decide⟩
  have y4 : c4.slots[((3 : Int32)).toNatClampNeg]? = some (.int (0 : Int32)) := H4 3 (by rw [S4]; decide)
  obtain ⟨cq5, kq5, q5a, q5b, q5c⟩ := isOf hZ e3 (fx_E_READ FF3)
  obtain ⟨_, _, ⟨T5, L5, k5, n5⟩, -, X5, ⟨Lc5, hQ5, l5, y5, z5⟩, st5⟩ := X3.virtualBack hx (y := (⟨"com/example/schedulock/schedulock/schedule/OperationKind", "conflictsWith", "(Lcom/example/schedulock/schedulock/schedule/OperationKind;)Z"⟩ : MethodName)) (z := (⟨"com/example/schedulock/schedulock/schedule/OperationKind", "conflictsWith", "(Lcom/example/schedulock/schedulock/schedule/OperationKind;)Z"⟩ : MethodName)) hown (mvT hZ (hw _ (List.mem_of_getElem? (i := 11) rfl))) (mvT hZ (hw _ (List.mem_of_getElem? (i := 12) rfl))) (notFace_of_selects (args := #[]) (mvT hZ (hw _ (List.mem_of_getElem? (i := 14) rfl)))) (mvT hZ (hw _ (List.mem_of_getElem? (i := 14) rfl))) (mvT hZ (hw _ (List.mem_of_getElem? (i := 13) rfl))) (by decide) (backOf (W := 0) (rm2_3 l Z a0 hw [] p0 p1 a_READ a_COMMIT a_ABORT a_WRITE a_INCREMENT h3 n0 (Nat.le_trans Z0 z3) FF3) hZ (hw _ (List.mem_of_getElem? (i := 15) rfl)) (hw _ (List.mem_of_getElem? (i := 6) rfl)) (by decide) (by decide)) q5a q5c (g := (mkF m 165 #[.val (.int p0), .val (.int p1), .val (.int (0 : Int32)), .val (.int (3 : Int32)), .val (.ref a_READ), .val (.ref a_COMMIT), .val (.ref b3), .val (.int (0 : Int32))] [(.ref a_COMMIT), (.ref a_READ)])) rfl (by rw [hml]; rfl) (Steps.refl _) (argsL := [(.ref a_COMMIT)]) (rest := []) (lenOf pd_1 rfl) rfl (by show 2 * 0 + _ ≤ _; exact Nat.le_of_eq rfl) (hb hby at_165) (fun _ _ => ⟨rfl, e3, (by decide : 1 + 0 ≤ _), (by decide : 25 + 0 ≤ _)⟩)
  dsimp only [Pt.U, Pt.locs, Pt.cells, Pt.slots] at X5 l5 y5 z5 st5 hQ5
  subst l5 y5 z5
  obtain ⟨rfl, N5q, e5⟩ := hQ5
  have N5 := Fr.app N3 N5q
  obtain ⟨fs, hr, hrun, hended, hW, hsame⟩ := X5.leave (v := some (.int (1 : Int32))) (fun h => by rw [Bd.returns] at h; cases h)
  refine ⟨_, _, pre0 _ ?_, hrun, hended, _, _, rfl, ?_, ⟨_, rfl⟩, hW, hsame.mono (by decide) (by decide)⟩
  · show Steps p.tables e below (s₁.setTop (mkF m 0 #[.val (.int p0), .val (.int p1), .unset, .unset, .unset, .unset, .unset, .unset] [])) _
    refine XS.iloadN X0.here hx rfl (hb hby at_0) rfl ?_
    show Steps p.tables e below (s₁.setTop (mkF m 1 #[.val (.int p0), .val (.int p1), .unset, .unset, .unset, .unset, .unset, .unset] [(.int p0)])) _
    refine X0.ldcInt hx hown (mvT hZ (hw _ (List.mem_of_getElem? (i := 0) rfl))) (g := (mkF m 1 #[.val (.int p0), .val (.int p1), .unset, .unset, .unset, .unset, .unset, .unset] [(.int p0)])) rfl (hb hby at_1) _ ?_
    show Steps p.tables e below (s₁.setTop (mkF m 3 #[.val (.int p0), .val (.int p1), .unset, .unset, .unset, .unset, .unset, .unset] [(.int (2147483647 : Int32)), (.int p0)])) _
    refine XS.iand X0.here hx rfl (hb hby at_3) rfl ?_
    show Steps p.tables e below (s₁.setTop (mkF m 4 #[.val (.int p0), .val (.int p1), .unset, .unset, .unset, .unset, .unset, .unset] [(.int (p0 &&& (2147483647 : Int32)))])) _
    refine XS.iconst X0.here hx rfl (hb hby at_4) ?_
    show Steps p.tables e below (s₁.setTop (mkF m 5 #[.val (.int p0), .val (.int p1), .unset, .unset, .unset, .unset, .unset, .unset] [(.int (5 : Int32)), (.int (p0 &&& (2147483647 : Int32)))])) _
    refine iremM X0 hx rfl (hb hby at_5) rfl (by decide) ?_
    show Steps p.tables e below (s₁.setTop (mkF m 6 #[.val (.int p0), .val (.int p1), .unset, .unset, .unset, .unset, .unset, .unset] [(.int ((p0 &&& (2147483647 : Int32)) % (5 : Int32)))])) _
    rw [hk0]
    show Steps p.tables e below (s₁.setTop (mkF m 6 #[.val (.int p0), .val (.int p1), .unset, .unset, .unset, .unset, .unset, .unset] [(.int (0 : Int32))])) _
    refine XS.istoreN X0.here hx rfl (hb hby at_6) rfl (l' := #[.val (.int p0), .val (.int p1), .val (.int (0 : Int32)), .unset, .unset, .unset, .unset, .unset]) rfl ?_
    show Steps p.tables e below (s₁.setTop (mkF m 7 #[.val (.int p0), .val (.int p1), .val (.int (0 : Int32)), .unset, .unset, .unset, .unset, .unset] [])) _
    refine XS.iloadN X0.here hx rfl (hb hby at_7) rfl ?_
    show Steps p.tables e below (s₁.setTop (mkF m 8 #[.val (.int p0), .val (.int p1), .val (.int (0 : Int32)), .unset, .unset, .unset, .unset, .unset] [(.int p1)])) _
    refine X0.ldcInt hx hown (mvT hZ (hw _ (List.mem_of_getElem? (i := 0) rfl))) (g := (mkF m 8 #[.val (.int p0), .val (.int p1), .val (.int (0 : Int32)), .unset, .unset, .unset, .unset, .unset] [(.int p1)])) rfl (hb hby at_8) _ ?_
    show Steps p.tables e below (s₁.setTop (mkF m 10 #[.val (.int p0), .val (.int p1), .val (.int (0 : Int32)), .unset, .unset, .unset, .unset, .unset] [(.int (2147483647 : Int32)), (.int p1)])) _
    refine XS.iand X0.here hx rfl (hb hby at_10) rfl ?_
    show Steps p.tables e below (s₁.setTop (mkF m 11 #[.val (.int p0), .val (.int p1), .val (.int (0 : Int32)), .unset, .unset, .unset, .unset, .unset] [(.int (p1 &&& (2147483647 : Int32)))])) _
    refine XS.iconst X0.here hx rfl (hb hby at_11) ?_
    show Steps p.tables e below (s₁.setTop (mkF m 12 #[.val (.int p0), .val (.int p1), .val (.int (0 : Int32)), .unset, .unset, .unset, .unset, .unset] [(.int (5 : Int32)), (.int (p1 &&& (2147483647 : Int32)))])) _
    refine iremM X0 hx rfl (hb hby at_12) rfl (by decide) ?_
    show Steps p.tables e below (s₁.setTop (mkF m 13 #[.val (.int p0), .val (.int p1), .val (.int (0 : Int32)), .unset, .unset, .unset, .unset, .unset] [(.int ((p1 &&& (2147483647 : Int32)) % (5 : Int32)))])) _
    rw [hk1]
    show Steps p.tables e below (s₁.setTop (mkF m 13 #[.val (.int p0), .val (.int p1), .val (.int (0 : Int32)), .unset, .unset, .unset, .unset, .unset] [(.int (3 : Int32))])) _
    refine XS.istoreN X0.here hx rfl (hb hby at_13) rfl (l' := #[.val (.int p0), .val (.int p1), .val (.int (0 : Int32)), .val (.int (3 : Int32)), .unset, .unset, .unset, .unset]) rfl ?_
    show Steps p.tables e below (s₁.setTop (mkF m 14 #[.val (.int p0), .val (.int p1), .val (.int (0 : Int32)), .val (.int (3 : Int32)), .unset, .unset, .unset, .unset] [])) _
    refine XS.iloadN X0.here hx rfl (hb hby at_14) rfl ?_
    show Steps p.tables e below (s₁.setTop (mkF m 15 #[.val (.int p0), .val (.int p1), .val (.int (0 : Int32)), .val (.int (3 : Int32)), .unset, .unset, .unset, .unset] [(.int (0 : Int32))])) _
    refine st1 _ ?_
    show Steps p.tables e below (T1.setTop (mkF m 18 #[.val (.int p0), .val (.int p1), .val (.int (0 : Int32)), .val (.int (3 : Int32)), .unset, .unset, .unset, .unset] [(.ref a_READ)])) _
    refine XS.astore X1.here hx rfl (hb hby at_18) rfl rfl (l' := #[.val (.int p0), .val (.int p1), .val (.int (0 : Int32)), .val (.int (3 : Int32)), .val (.ref a_READ), .unset, .unset, .unset]) rfl ?_
    show Steps p.tables e below (T1.setTop (mkF m 20 #[.val (.int p0), .val (.int p1), .val (.int (0 : Int32)), .val (.int (3 : Int32)), .val (.ref a_READ), .unset, .unset, .unset] [])) _
    refine XS.iloadN X1.here hx rfl (hb hby at_20) rfl ?_
    show Steps p.tables e below (T1.setTop (mkF m 21 #[.val (.int p0), .val (.int p1), .val (.int (0 : Int32)), .val (.int (3 : Int32)), .val (.ref a_READ), .unset, .unset, .unset] [(.int (3 : Int32))])) _
    refine st2 _ ?_
    show Steps p.tables e below (T2.setTop (mkF m 24 #[.val (.int p0), .val (.int p1), .val (.int (0 : Int32)), .val (.int (3 : Int32)), .val (.ref a_READ), .unset, .unset, .unset] [(.ref a_COMMIT)])) _
    refine XS.astore X2.here hx rfl (hb hby at_24) rfl rfl (l' := #[.val (.int p0), .val (.int p1), .val (.int (0 : Int32)), .val (.int (3 : Int32)), .val (.ref a_READ), .val (.ref a_COMMIT), .unset, .unset]) rfl ?_
    show Steps p.tables e below (T2.setTop (mkF m 26 #[.val (.int p0), .val (.int p1), .val (.int (0 : Int32)), .val (.int (3 : Int32)), .val (.ref a_READ), .val (.ref a_COMMIT), .unset, .unset] [])) _
    refine st3 _ ?_
    show Steps p.tables e below (T3.setTop (mkF m 151 #[.val (.int p0), .val (.int p1), .val (.int (0 : Int32)), .val (.int (3 : Int32)), .val (.ref a_READ), .val (.ref a_COMMIT), .val (.ref b3), .unset] [])) _
    refine XS.aload X3.here hx rfl (hb hby at_151) rfl rfl ?_
    show Steps p.tables e below (T3.setTop (mkF m 153 #[.val (.int p0), .val (.int p1), .val (.int (0 : Int32)), .val (.int (3 : Int32)), .val (.ref a_READ), .val (.ref a_COMMIT), .val (.ref b3), .unset] [(.ref b3)])) _
    refine XS.iloadN X3.here hx rfl (hb hby at_153) rfl ?_
    show Steps p.tables e below (T3.setTop (mkF m 154 #[.val (.int p0), .val (.int p1), .val (.int (0 : Int32)), .val (.int (3 : Int32)), .val (.ref a_READ), .val (.ref a_COMMIT), .val (.ref b3), .unset] [(.int (0 : Int32)), (.ref b3)])) _
    refine XS.iconst X3.here hx rfl (hb hby at_154) ?_
    show Steps p.tables e below (T3.setTop (mkF m 155 #[.val (.int p0), .val (.int p1), .val (.int (0 : Int32)), .val (.int (3 : Int32)), .val (.ref a_READ), .val (.ref a_COMMIT), .val (.ref b3), .unset] [(.int (5 : Int32)), (.int (0 : Int32)), (.ref b3)])) _
    refine XS.imul X3.here hx rfl (hb hby at_155) rfl ?_
    show Steps p.tables e below (T3.setTop (mkF m 156 #[.val (.int p0), .val (.int p1), .val (.int (0 : Int32)), .val (.int (3 : Int32)), .val (.ref a_READ), .val (.ref a_COMMIT), .val (.ref b3), .unset] [(.int ((0 : Int32) * (5 : Int32))), (.ref b3)])) _
    rw [(by decide : ((0 : Int32) * (5 : Int32)) = (0 : Int32))]
    show Steps p.tables e below (T3.setTop (mkF m 156 #[.val (.int p0), .val (.int p1), .val (.int (0 : Int32)), .val (.int (3 : Int32)), .val (.ref a_READ), .val (.ref a_COMMIT), .val (.ref b3), .unset] [(.int (0 : Int32)), (.ref b3)])) _
    refine XS.iloadN X3.here hx rfl (hb hby at_156) rfl ?_
    show Steps p.tables e below (T3.setTop (mkF m 157 #[.val (.int p0), .val (.int p1), .val (.int (0 : Int32)), .val (.int (3 : Int32)), .val (.ref a_READ), .val (.ref a_COMMIT), .val (.ref b3), .unset] [(.int (3 : Int32)), (.int (0 : Int32)), (.ref b3)])) _
    refine XS.iadd X3.here hx rfl (hb hby at_157) rfl ?_
    show Steps p.tables e below (T3.setTop (mkF m 158 #[.val (.int p0), .val (.int p1), .val (.int (0 : Int32)), .val (.int (3 : Int32)), .val (.ref a_READ), .val (.ref a_COMMIT), .val (.ref b3), .unset] [(.int ((0 : Int32) + (3 : Int32))), (.ref b3)])) _
    rw [(by decide : ((0 : Int32) + (3 : Int32)) = (3 : Int32))]
    show Steps p.tables e below (T3.setTop (mkF m 158 #[.val (.int p0), .val (.int p1), .val (.int (0 : Int32)), .val (.int (3 : Int32)), .val (.ref a_READ), .val (.ref a_COMMIT), .val (.ref b3), .unset] [(.int (3 : Int32)), (.ref b3)])) _
    refine X3.baloadBooleans hx (j := (3 : Int32)) (v := (.int (0 : Int32))) (by rw [e3]; exact r4.1) (State.isArrayOf_alike hZ.alike r4.2.1) r4.2.2 i4 y4 (g := (mkF m 158 #[.val (.int p0), .val (.int p1), .val (.int (0 : Int32)), .val (.int (3 : Int32)), .val (.ref a_READ), .val (.ref a_COMMIT), .val (.ref b3), .unset] [(.int (3 : Int32)), (.ref b3)])) rfl rfl (hb hby at_158) _ ?_
    show Steps p.tables e below (T3.setTop (mkF m 159 #[.val (.int p0), .val (.int p1), .val (.int (0 : Int32)), .val (.int (3 : Int32)), .val (.ref a_READ), .val (.ref a_COMMIT), .val (.ref b3), .unset] [(.int (0 : Int32))])) _
    refine XS.istore X3.here hx rfl (hb hby at_159) rfl (l' := #[.val (.int p0), .val (.int p1), .val (.int (0 : Int32)), .val (.int (3 : Int32)), .val (.ref a_READ), .val (.ref a_COMMIT), .val (.ref b3), .val (.int (0 : Int32))]) rfl ?_
    show Steps p.tables e below (T3.setTop (mkF m 161 #[.val (.int p0), .val (.int p1), .val (.int (0 : Int32)), .val (.int (3 : Int32)), .val (.ref a_READ), .val (.ref a_COMMIT), .val (.ref b3), .val (.int (0 : Int32))] [])) _
    refine XS.aload X3.here hx rfl (hb hby at_161) rfl rfl ?_
    show Steps p.tables e below (T3.setTop (mkF m 163 #[.val (.int p0), .val (.int p1), .val (.int (0 : Int32)), .val (.int (3 : Int32)), .val (.ref a_READ), .val (.ref a_COMMIT), .val (.ref b3), .val (.int (0 : Int32))] [(.ref a_READ)])) _
    refine XS.aload X3.here hx rfl (hb hby at_163) rfl rfl ?_
    show Steps p.tables e below (T3.setTop (mkF m 165 #[.val (.int p0), .val (.int p1), .val (.int (0 : Int32)), .val (.int (3 : Int32)), .val (.ref a_READ), .val (.ref a_COMMIT), .val (.ref b3), .val (.int (0 : Int32))] [(.ref a_COMMIT), (.ref a_READ)])) _
    refine st5.trans ?_
    show Steps p.tables e below (T5.setTop (mkF m 168 #[.val (.int p0), .val (.int p1), .val (.int (0 : Int32)), .val (.int (3 : Int32)), .val (.ref a_READ), .val (.ref a_COMMIT), .val (.ref b3), .val (.int (0 : Int32))] [(.int (0 : Int32))])) _
    refine XS.iload X5.here hx rfl (hb hby at_168) rfl ?_
    show Steps p.tables e below (T5.setTop (mkF m 170 #[.val (.int p0), .val (.int p1), .val (.int (0 : Int32)), .val (.int (3 : Int32)), .val (.ref a_READ), .val (.ref a_COMMIT), .val (.ref b3), .val (.int (0 : Int32))] [(.int (0 : Int32)), (.int (0 : Int32))])) _
    refine XS.icmpNo X5.here hx rfl (hb hby at_170) rfl (by decide) ?_
    show Steps p.tables e below (T5.setTop (mkF m 173 #[.val (.int p0), .val (.int p1), .val (.int (0 : Int32)), .val (.int (3 : Int32)), .val (.ref a_READ), .val (.ref a_COMMIT), .val (.ref b3), .val (.int (0 : Int32))] [])) _
    refine XS.iconst X5.here hx rfl (hb hby at_173) ?_
    show Steps p.tables e below (T5.setTop (mkF m 174 #[.val (.int p0), .val (.int p1), .val (.int (0 : Int32)), .val (.int (3 : Int32)), .val (.ref a_READ), .val (.ref a_COMMIT), .val (.ref b3), .val (.int (0 : Int32))] [(.int (1 : Int32))])) _
    refine XS.goto X5.here hx rfl (pc0 := 174) (pc' := 178) rfl (hb hby at_174) (by decide) (by decide) ?_
    show Steps p.tables e below (T5.setTop (mkF m 178 #[.val (.int p0), .val (.int p1), .val (.int (0 : Int32)), .val (.int (3 : Int32)), .val (.ref a_READ), .val (.ref a_COMMIT), .val (.ref b3), .val (.int (0 : Int32))] [(.int (1 : Int32))])) _
    exact retN X5 hx (t := .boolean) Bd.returns (by simp) (hb hby at_178) hr
  · exact ⟨rfl, N5⟩
set_option maxRecDepth 65536 in
set_option maxHeartbeats 40000000 in
theorem rm1_4 (l : Launch) (Z : State) (a0 : Array Value) (hw : ∀ d ∈ tables_1, d.before a0 Z = true) (ws : List Jvm.Cond) (p0 p1 : Int32) (a_READ a_COMMIT a_ABORT a_WRITE a_INCREMENT : Addr) (h0 : Heap) (n0 : Nat) (Z0 : n0 ≤ h0.size) (FF : Facts Z h0 a_READ a_COMMIT a_ABORT a_WRITE a_INCREMENT) :
    MetFree l (⟨"com/example/schedulock/schedulock/schedule/OperationKindConflictsWithPinLaw", "kind", "(I)Lcom/example/schedulock/schedulock/schedule/OperationKind;"⟩ : MethodName) (head1 (Jvm.Cond.code (⟨"com/example/schedulock/schedulock/schedule/OperationKindConflictsWithPinLaw", "kind", "(I)Lcom/example/schedulock/schedulock/schedule/OperationKind;"⟩ : MethodName) method_3_code 1 (some (.object "com/example/schedulock/schedulock/schedule/OperationKind")) :: ws) ({ frames := 0, cells := 0, slots := 0, locals := 0 } : Room)) (fun a U => a = #[(.int (4 : Int32))] ∧ Z.Warmed39 U.vm ∧ U.heap = h0) (fun _ _ _ _ _ => True) (fun _ U o U' => ∃ v L, o = .returned v ∧ own_Q (.ref a_ABORT) h0 n0 v U'.heap L ∧ FrameEnd U o U' L ({ frames := 0, cells := 0, slots := 0, locals := 0 } : Room).cells ({ frames := 0, cells := 0, slots := 0, locals := 0 } : Room).slots) := by
  refine MetFree.of_bodySF (plainFor_of_name pn_1) hisR ?_
  intro p e s m args below meth c s₁ Bd hml0 hP hK
  obtain ⟨rfl, hZ, hh⟩ := hP
  have hx := Bd.exec
  have hby := Bd.bytes
  have hml : c.maxLocals = 1 := hml0
  have hown : s.vm.findClass "com/example/schedulock/schedulock/schedule/OperationKindConflictsWithPinLaw" = some m.cls := findClass_of_methodNamed Bd.named
  have X0 : Stand p l e ({ frames := 0, cells := 0, slots := 0, locals := 0 } : Room) s m #[(.int (4 : Int32))] below meth c s₁ [] 0 0 := Stand.of_body Bd
  have e0 : s₁.heap = h0 := by rw [← hh, Bd.state]; rfl
  have N0 := Fr.nil n0
  have pre0 : ∀ t, Steps p.tables e below (s₁.setTop (mkF m 0 #[.val (.int (4 : Int32))] [])) t → Steps p.tables e below (s₁.setTop (entryFrame m #[(.int (4 : Int32))] 1)) t := fun t k => castTop (ef_1 m (4 : Int32)) k
  obtain ⟨T1, X1, e1, st1⟩ := getS2 X0 hx hZ hown (host := "") (Or.inl (hw _ (List.mem_of_getElem? (i := 18) rfl))) Via.refl e0 (fx_S_ABORT FF) (g := (mkF m 35 #[.val (.int (4 : Int32))] [])) rfl (hb hby d1_35)
  obtain ⟨fs, hr, hrun, hended, hW, hsame⟩ := X1.leave (v := some (.ref a_ABORT)) (fun h => by rw [Bd.returns] at h; cases h)
  refine ⟨_, _, pre0 _ ?_, hrun, hended, _, _, rfl, ?_, ⟨_, rfl⟩, hW, hsame.mono (by decide) (by decide)⟩
  · show Steps p.tables e below (s₁.setTop (mkF m 0 #[.val (.int (4 : Int32))] [])) _
    refine XS.iloadN X0.here hx rfl (hb hby d1_0) rfl ?_
    show Steps p.tables e below (s₁.setTop (mkF m 1 #[.val (.int (4 : Int32))] [(.int (4 : Int32))])) _
    refine XS.ifYes X0.here hx rfl (pc0 := 1) (pc' := 8) rfl (hb hby d1_1) rfl (by decide) (by decide) (by decide) ?_
    show Steps p.tables e below (s₁.setTop (mkF m 8 #[.val (.int (4 : Int32))] [])) _
    refine XS.iloadN X0.here hx rfl (hb hby d1_8) rfl ?_
    show Steps p.tables e below (s₁.setTop (mkF m 9 #[.val (.int (4 : Int32))] [(.int (4 : Int32))])) _
    refine XS.iconst X0.here hx rfl (hb hby d1_9) ?_
    show Steps p.tables e below (s₁.setTop (mkF m 10 #[.val (.int (4 : Int32))] [(.int (1 : Int32)), (.int (4 : Int32))])) _
    refine XS.icmpYes X0.here hx rfl (pc0 := 10) (pc' := 17) rfl (hb hby d1_10) rfl (by decide) (by decide) (by decide) ?_
    show Steps p.tables e below (s₁.setTop (mkF m 17 #[.val (.int (4 : Int32))] [])) _
    refine XS.iloadN X0.here hx rfl (hb hby d1_17) rfl ?_
    show Steps p.tables e below (s₁.setTop (mkF m 18 #[.val (.int (4 : Int32))] [(.int (4 : Int32))])) _
    refine XS.iconst X0.here hx rfl (hb hby d1_18) ?_
    show Steps p.tables e below (s₁.setTop (mkF m 19 #[.val (.int (4 : Int32))] [(.int (2 : Int32)), (.int (4 : Int32))])) _
    refine XS.icmpYes X0.here hx rfl (pc0 := 19) (pc' := 26) rfl (hb hby d1_19) rfl (by decide) (by decide) (by decide) ?_
    show Steps p.tables e below (s₁.setTop (mkF m 26 #[.val (.int (4 : Int32))] [])) _
    refine XS.iloadN X0.here hx rfl (hb hby d1_26) rfl ?_
    show Steps p.tables e below (s₁.setTop (mkF m 27 #[.val (.int (4 : Int32))] [(.int (4 : Int32))])) _
    refine XS.iconst X0.here hx rfl (hb hby d1_27) ?_
    show Steps p.tables e below (s₁.setTop (mkF m 28 #[.val (.int (4 : Int32))] [(.int (3 : Int32)), (.int (4 : Int32))])) _
    refine XS.icmpYes X0.here hx rfl (pc0 := 28) (pc' := 35) rfl (hb hby d1_28) rfl (by decide) (by decide) (by decide) ?_
    show Steps p.tables e below (s₁.setTop (mkF m 35 #[.val (.int (4 : Int32))] [])) _
    refine st1 _ ?_
    show Steps p.tables e below (T1.setTop (mkF m 38 #[.val (.int (4 : Int32))] [(.ref a_ABORT)])) _
    exact retOut X1 hx Bd.returns rfl (Or.inr (Or.inr (Or.inr (Or.inr ⟨rfl, rfl, rfl⟩)))) (hb hby d1_38) hr
  · show own_Q _ _ _ _ T1.heap _
    exact ⟨rfl, N0, e1⟩
set_option maxRecDepth 65536 in
set_option maxHeartbeats 40000000 in
theorem rm2_4 (l : Launch) (Z : State) (a0 : Array Value) (hw : ∀ d ∈ tables_1, d.before a0 Z = true) (ws : List Jvm.Cond) (p0 p1 : Int32) (a_READ a_COMMIT a_ABORT a_WRITE a_INCREMENT : Addr) (h0 : Heap) (n0 : Nat) (Z0 : n0 ≤ h0.size) (FF : Facts Z h0 a_READ a_COMMIT a_ABORT a_WRITE a_INCREMENT) :
    MetFree l (⟨"com/example/schedulock/schedulock/schedule/OperationKind", "conflictsWith", "(Lcom/example/schedulock/schedulock/schedule/OperationKind;)Z"⟩ : MethodName) (head1 (Jvm.Cond.code (⟨"com/example/schedulock/schedulock/schedule/OperationKind", "conflictsWith", "(Lcom/example/schedulock/schedulock/schedule/OperationKind;)Z"⟩ : MethodName) prog_31_method_5_code 2 (some .boolean) :: ws) ({ frames := 0, cells := 0, slots := 0, locals := 0 } : Room)) (fun a U => a = #[(.ref a_READ), (.ref a_ABORT)] ∧ Z.Warmed39 U.vm ∧ U.heap = h0) (fun _ _ _ _ _ => True) (fun _ U o U' => ∃ v L, o = .returned v ∧ own_Q (.int (0 : Int32)) h0 n0 v U'.heap L ∧ FrameEnd U o U' L ({ frames := 0, cells := 0, slots := 0, locals := 0 } : Room).cells ({ frames := 0, cells := 0, slots := 0, locals := 0 } : Room).slots) := by
  refine MetFree.of_bodySF (plainFor_of_name pn_2) hisR ?_
  intro p e s m args below meth c s₁ Bd hml0 hP hK
  obtain ⟨rfl, hZ, hh⟩ := hP
  have hx := Bd.exec
  have hby := Bd.bytes
  have hml : c.maxLocals = 2 := hml0
  have hown : s.vm.findClass "com/example/schedulock/schedulock/schedule/OperationKind" = some m.cls := findClass_of_methodNamed Bd.named
  have X0 : Stand p l e ({ frames := 0, cells := 0, slots := 0, locals := 0 } : Room) s m #[(.ref a_READ), (.ref a_ABORT)] below meth c s₁ [] 0 0 := Stand.of_body Bd
  have e0 : s₁.heap = h0 := by rw [← hh, Bd.state]; rfl
  have N0 := Fr.nil n0
  have pre0 : ∀ t, Steps p.tables e below (s₁.setTop (mkF m 0 #[.val (.ref a_READ), .val (.ref a_ABORT)] [])) t → Steps p.tables e below (s₁.setTop (entryFrame m #[(.ref a_READ), (.ref a_ABORT)] 2)) t := fun t k => castTop (ef_2 m a_READ a_ABORT) k
  obtain ⟨T1, X1, e1, st1⟩ := getF X0 hx hZ hown (host := "") (Or.inl (hw _ (List.mem_of_getElem? (i := 16) rfl))) Via.refl e0 (fx_F_READ_takesItem FF) (g := (mkF m 1 #[.val (.ref a_READ), .val (.ref a_ABORT)] [(.ref a_READ)])) rfl rfl (hb hby d2_1)
  obtain ⟨T2, X2, e2, st2⟩ := getF X1 hx hZ hown (host := "") (Or.inl (hw _ (List.mem_of_getElem? (i := 16) rfl))) Via.refl e1 (fx_F_ABORT_takesItem FF) (g := (mkF m 8 #[.val (.ref a_READ), .val (.ref a_ABORT)] [(.ref a_ABORT)])) rfl rfl (hb hby d2_8)
  obtain ⟨fs, hr, hrun, hended, hW, hsame⟩ := X2.leave (v := some (.int (0 : Int32))) (fun h => by rw [Bd.returns] at h; cases h)
  refine ⟨_, _, pre0 _ ?_, hrun, hended, _, _, rfl, ?_, ⟨_, rfl⟩, hW, hsame.mono (by decide) (by decide)⟩
  · show Steps p.tables e below (s₁.setTop (mkF m 0 #[.val (.ref a_READ), .val (.ref a_ABORT)] [])) _
    refine XS.aloadN X0.here hx rfl (hb hby d2_0) rfl rfl ?_
    show Steps p.tables e below (s₁.setTop (mkF m 1 #[.val (.ref a_READ), .val (.ref a_ABORT)] [(.ref a_READ)])) _
    refine st1 _ ?_
    show Steps p.tables e below (T1.setTop (mkF m 4 #[.val (.ref a_READ), .val (.ref a_ABORT)] [(.int (1 : Int32))])) _
    refine XS.ifNo X1.here hx rfl (hb hby d2_4) rfl (by decide) ?_
    show Steps p.tables e below (T1.setTop (mkF m 7 #[.val (.ref a_READ), .val (.ref a_ABORT)] [])) _
    refine XS.aloadN X1.here hx rfl (hb hby d2_7) rfl rfl ?_
    show Steps p.tables e below (T1.setTop (mkF m 8 #[.val (.ref a_READ), .val (.ref a_ABORT)] [(.ref a_ABORT)])) _
    refine st2 _ ?_
    show Steps p.tables e below (T2.setTop (mkF m 11 #[.val (.ref a_READ), .val (.ref a_ABORT)] [(.int (0 : Int32))])) _
    refine XS.ifYes X2.here hx rfl (pc0 := 11) (pc' := 30) rfl (hb hby d2_11) rfl (by decide) (by decide) (by decide) ?_
    show Steps p.tables e below (T2.setTop (mkF m 30 #[.val (.ref a_READ), .val (.ref a_ABORT)] [])) _
    refine XS.iconst X2.here hx rfl (hb hby d2_30) ?_
    show Steps p.tables e below (T2.setTop (mkF m 31 #[.val (.ref a_READ), .val (.ref a_ABORT)] [(.int (0 : Int32))])) _
    exact retN X2 hx (t := .boolean) Bd.returns (by simp) (hb hby d2_31) hr
  · show own_Q _ _ _ _ T2.heap _
    exact ⟨rfl, N0, e2⟩
set_option maxRecDepth 65536 in
set_option maxHeartbeats 40000000 in
theorem rm0_4 (l : Launch) (Z : State) (a0 : Array Value) (hw : ∀ d ∈ tables_1, d.before a0 Z = true) (ws : List Jvm.Cond) (p0 p1 : Int32) (a_READ a_COMMIT a_ABORT a_WRITE a_INCREMENT : Addr) (h0 : Heap) (n0 : Nat) (Z0 : n0 ≤ h0.size) (FF : Facts Z h0 a_READ a_COMMIT a_ABORT a_WRITE a_INCREMENT) (hk0 : ((p0 &&& (2147483647 : Int32)) % (5 : Int32)) = (0 : Int32)) (hk1 : ((p1 &&& (2147483647 : Int32)) % (5 : Int32)) = (4 : Int32)) :
    MetFree l x (head1 (Jvm.Cond.code x code maxLocals ret :: ws) room_1) (fun a U => a = #[(.int p0), (.int p1)] ∧ Z.Warmed39 U.vm ∧ U.heap = h0) (fun _ _ _ _ _ => True) (fun _ U o U' => ∃ v L, o = .returned v ∧ (v = some (.int (1 : Int32)) ∧ Fr n0 L) ∧ FrameEnd U o U' L room_1.cells room_1.slots) := by
  refine MetFree.of_bodySF (plainFor_of_name pn_0) hisR ?_
  intro p e s m args below meth c s₁ Bd hml0 hP hK
  obtain ⟨rfl, hZ, hh⟩ := hP
  have hx := Bd.exec
  have hby := Bd.bytes
  have hml : c.maxLocals = 8 := hml0
  have hown : s.vm.findClass "com/example/schedulock/schedulock/schedule/OperationKindConflictsWithPinLaw" = some m.cls := findClass_of_methodNamed Bd.named
  have X0 : Stand p l e room_1 s m #[(.int p0), (.int p1)] below meth c s₁ [] 0 0 := Stand.of_body Bd
  have e0 : s₁.heap = h0 := by rw [← hh, Bd.state]; rfl
  have N0 := Fr.nil n0
  have pre0 : ∀ t, Steps p.tables e below (s₁.setTop (mkF m 0 #[.val (.int p0), .val (.int p1), .unset, .unset, .unset, .unset, .unset, .unset] [])) t → Steps p.tables e below (s₁.setTop (entryFrame m #[(.int p0), (.int p1)] maxLocals)) t := fun t k => castTop (ef_0 m p0 p1) k
  obtain ⟨_, _, ⟨T1, L1, k1, n1⟩, -, X1, ⟨Lc1, hQ1, l1, y1, z1⟩, st1⟩ := Jvm.LawKit.callS X0 hx (y := (⟨"com/example/schedulock/schedulock/schedule/OperationKindConflictsWithPinLaw", "kind", "(I)Lcom/example/schedulock/schedulock/schedule/OperationKind;"⟩ : MethodName)) hown (mvT hZ (hw _ (List.mem_of_getElem? (i := 1) rfl))) (mvT hZ (hw _ (List.mem_of_getElem? (i := 2) rfl))) (mvT hZ (hw _ (List.mem_of_getElem? (i := 3) rfl))) (mvT hZ (hw _ (List.mem_of_getElem? (i := 4) rfl))) (by decide) (backOf (W := 0) (rm1_0 l Z a0 hw [] p0 p1 a_READ a_COMMIT a_ABORT a_WRITE a_INCREMENT h0 n0 (Nat.le_trans Z0 (Nat.le_refl _)) FF) hZ (hw _ (List.mem_of_getElem? (i := 4) rfl)) (hw _ (List.mem_of_getElem? (i := 3) rfl)) (by decide) (by decide)) (g := (mkF m 15 #[.val (.int p0), .val (.int p1), .val (.int (0 : Int32)), .val (.int (4 : Int32)), .unset, .unset, .unset, .unset] [(.int (0 : Int32))])) rfl (by rw [hml]; rfl) (argsL := [(.int (0 : Int32))]) (rest := []) (lenOf pd_0 rfl) rfl (by show 2 * 0 + _ ≤ _; exact Nat.le_of_eq rfl) (hb hby at_15) (fun _ _ => ⟨rfl, e0, (by decide : 0 + 0 ≤ _), (by decide : 0 + 0 ≤ _)⟩)
  dsimp only [Pt.U, Pt.locs, Pt.cells, Pt.slots] at X1 l1 y1 z1 st1 hQ1
  subst l1 y1 z1
  obtain ⟨rfl, N1q, e1⟩ := hQ1
  have N1 := Fr.app N0 N1q
  obtain ⟨_, _, ⟨T2, L2, k2, n2⟩, -, X2, ⟨Lc2, hQ2, l2, y2, z2⟩, st2⟩ := Jvm.LawKit.callS X1 hx (y := (⟨"com/example/schedulock/schedulock/schedule/OperationKindConflictsWithPinLaw", "kind", "(I)Lcom/example/schedulock/schedulock/schedule/OperationKind;"⟩ : MethodName)) hown (mvT hZ (hw _ (List.mem_of_getElem? (i := 1) rfl))) (mvT hZ (hw _ (List.mem_of_getElem? (i := 2) rfl))) (mvT hZ (hw _ (List.mem_of_getElem? (i := 3) rfl))) (mvT hZ (hw _ (List.mem_of_getElem? (i := 4) rfl))) (by decide) (backOf (W := 0) (rm1_4 l Z a0 hw [] p0 p1 a_READ a_COMMIT a_ABORT a_WRITE a_INCREMENT h0 n0 (Nat.le_trans Z0 (Nat.le_refl _)) FF) hZ (hw _ (List.mem_of_getElem? (i := 4) rfl)) (hw _ (List.mem_of_getElem? (i := 3) rfl)) (by decide) (by decide)) (g := (mkF m 21 #[.val (.int p0), .val (.int p1), .val (.int (0 : Int32)), .val (.int (4 : Int32)), .val (.ref a_READ), .unset, .unset, .unset] [(.int (4 : Int32))])) rfl (by rw [hml]; rfl) (argsL := [(.int (4 : Int32))]) (rest := []) (lenOf pd_0 rfl) rfl (by show 2 * 0 + _ ≤ _; exact Nat.le_of_eq rfl) (hb hby at_21) (fun _ _ => ⟨rfl, e1, (by decide : 0 + 0 ≤ _), (by decide : 0 + 0 ≤ _)⟩)
  dsimp only [Pt.U, Pt.locs, Pt.cells, Pt.slots] at X2 l2 y2 z2 st2 hQ2
  subst l2 y2 z2
  obtain ⟨rfl, N2q, e2⟩ := hQ2
  have N2 := Fr.app N1 N2q
  obtain ⟨T3, h3, b3, k3, lc3, X3, e3, s_b3, z3, N3, FF3, V3, st3⟩ := seg_0 (l := l) (Z := Z) hw a_READ a_COMMIT a_ABORT a_WRITE a_INCREMENT p0 p1 (0 : Int32) (4 : Int32) a_READ a_ABORT X2 hx hZ hby hml hown e2 Z0 N2 FF
  obtain ⟨c4, r4, -, S4, -, H4, -⟩ := V3
  have i4 : ¬ ((4 : Int32) < 0 ∨ c4.slots.size ≤ ((4 : Int32)).toNatClampNeg) := inb_of S4 ⟨by decide, by decide⟩
  have y4 : c4.slots[((4 : Int32)).toNatClampNeg]? = some (.int (0 : Int32)) := H4 4 (by rw [S4]; decide)
  obtain ⟨cq5, kq5, q5a, q5b, q5c⟩ := isOf hZ e3 (fx_E_READ FF3)
  obtain ⟨_, _, ⟨T5, L5, k5, n5⟩, -, X5, ⟨Lc5, hQ5, l5, y5, z5⟩, st5⟩ := X3.virtualBack hx (y := (⟨"com/example/schedulock/schedulock/schedule/OperationKind", "conflictsWith", "(Lcom/example/schedulock/schedulock/schedule/OperationKind;)Z"⟩ : MethodName)) (z := (⟨"com/example/schedulock/schedulock/schedule/OperationKind", "conflictsWith", "(Lcom/example/schedulock/schedulock/schedule/OperationKind;)Z"⟩ : MethodName)) hown (mvT hZ (hw _ (List.mem_of_getElem? (i := 11) rfl))) (mvT hZ (hw _ (List.mem_of_getElem? (i := 12) rfl))) (notFace_of_selects (args := #[]) (mvT hZ (hw _ (List.mem_of_getElem? (i := 14) rfl)))) (mvT hZ (hw _ (List.mem_of_getElem? (i := 14) rfl))) (mvT hZ (hw _ (List.mem_of_getElem? (i := 13) rfl))) (by decide) (backOf (W := 0) (rm2_4 l Z a0 hw [] p0 p1 a_READ a_COMMIT a_ABORT a_WRITE a_INCREMENT h3 n0 (Nat.le_trans Z0 z3) FF3) hZ (hw _ (List.mem_of_getElem? (i := 15) rfl)) (hw _ (List.mem_of_getElem? (i := 6) rfl)) (by decide) (by decide)) q5a q5c (g := (mkF m 165 #[.val (.int p0), .val (.int p1), .val (.int (0 : Int32)), .val (.int (4 : Int32)), .val (.ref a_READ), .val (.ref a_ABORT), .val (.ref b3), .val (.int (0 : Int32))] [(.ref a_ABORT), (.ref a_READ)])) rfl (by rw [hml]; rfl) (Steps.refl _) (argsL := [(.ref a_ABORT)]) (rest := []) (lenOf pd_1 rfl) rfl (by show 2 * 0 + _ ≤ _; exact Nat.le_of_eq rfl) (hb hby at_165) (fun _ _ => ⟨rfl, e3, (by decide : 1 + 0 ≤ _), (by decide : 25 + 0 ≤ _)⟩)
  dsimp only [Pt.U, Pt.locs, Pt.cells, Pt.slots] at X5 l5 y5 z5 st5 hQ5
  subst l5 y5 z5
  obtain ⟨rfl, N5q, e5⟩ := hQ5
  have N5 := Fr.app N3 N5q
  obtain ⟨fs, hr, hrun, hended, hW, hsame⟩ := X5.leave (v := some (.int (1 : Int32))) (fun h => by rw [Bd.returns] at h; cases h)
  refine ⟨_, _, pre0 _ ?_, hrun, hended, _, _, rfl, ?_, ⟨_, rfl⟩, hW, hsame.mono (by decide) (by decide)⟩
  · show Steps p.tables e below (s₁.setTop (mkF m 0 #[.val (.int p0), .val (.int p1), .unset, .unset, .unset, .unset, .unset, .unset] [])) _
    refine XS.iloadN X0.here hx rfl (hb hby at_0) rfl ?_
    show Steps p.tables e below (s₁.setTop (mkF m 1 #[.val (.int p0), .val (.int p1), .unset, .unset, .unset, .unset, .unset, .unset] [(.int p0)])) _
    refine X0.ldcInt hx hown (mvT hZ (hw _ (List.mem_of_getElem? (i := 0) rfl))) (g := (mkF m 1 #[.val (.int p0), .val (.int p1), .unset, .unset, .unset, .unset, .unset, .unset] [(.int p0)])) rfl (hb hby at_1) _ ?_
    show Steps p.tables e below (s₁.setTop (mkF m 3 #[.val (.int p0), .val (.int p1), .unset, .unset, .unset, .unset, .unset, .unset] [(.int (2147483647 : Int32)), (.int p0)])) _
    refine XS.iand X0.here hx rfl (hb hby at_3) rfl ?_
    show Steps p.tables e below (s₁.setTop (mkF m 4 #[.val (.int p0), .val (.int p1), .unset, .unset, .unset, .unset, .unset, .unset] [(.int (p0 &&& (2147483647 : Int32)))])) _
    refine XS.iconst X0.here hx rfl (hb hby at_4) ?_
    show Steps p.tables e below (s₁.setTop (mkF m 5 #[.val (.int p0), .val (.int p1), .unset, .unset, .unset, .unset, .unset, .unset] [(.int (5 : Int32)), (.int (p0 &&& (2147483647 : Int32)))])) _
    refine iremM X0 hx rfl (hb hby at_5) rfl (by decide) ?_
    show Steps p.tables e below (s₁.setTop (mkF m 6 #[.val (.int p0), .val (.int p1), .unset, .unset, .unset, .unset, .unset, .unset] [(.int ((p0 &&& (2147483647 : Int32)) % (5 : Int32)))])) _
    rw [hk0]
    show Steps p.tables e below (s₁.setTop (mkF m 6 #[.val (.int p0), .val (.int p1), .unset, .unset, .unset, .unset, .unset, .unset] [(.int (0 : Int32))])) _
    refine XS.istoreN X0.here hx rfl (hb hby at_6) rfl (l' := #[.val (.int p0), .val (.int p1), .val (.int (0 : Int32)), .unset, .unset, .unset, .unset, .unset]) rfl ?_
    show Steps p.tables e below (s₁.setTop (mkF m 7 #[.val (.int p0), .val (.int p1), .val (.int (0 : Int32)), .unset, .unset, .unset, .unset, .unset] [])) _
    refine XS.iloadN X0.here hx rfl (hb hby at_7) rfl ?_
    show Steps p.tables e below (s₁.setTop (mkF m 8 #[.val (.int p0), .val (.int p1), .val (.int (0 : Int32)), .unset, .unset, .unset, .unset, .unset] [(.int p1)])) _
    refine X0.ldcInt hx hown (mvT hZ (hw _ (List.mem_of_getElem? (i := 0) rfl))) (g := (mkF m 8 #[.val (.int p0), .val (.int p1), .val (.int (0 : Int32)), .unset, .unset, .unset, .unset, .unset] [(.int p1)])) rfl (hb hby at_8) _ ?_
    show Steps p.tables e below (s₁.setTop (mkF m 10 #[.val (.int p0), .val (.int p1), .val (.int (0 : Int32)), .unset, .unset, .unset, .unset, .unset] [(.int (2147483647 : Int32)), (.int p1)])) _
    refine XS.iand X0.here hx rfl (hb hby at_10) rfl ?_
    show Steps p.tables e below (s₁.setTop (mkF m 11 #[.val (.int p0), .val (.int p1), .val (.int (0 : Int32)), .unset, .unset, .unset, .unset, .unset] [(.int (p1 &&& (2147483647 : Int32)))])) _
    refine XS.iconst X0.here hx rfl (hb hby at_11) ?_
    show Steps p.tables e below (s₁.setTop (mkF m 12 #[.val (.int p0), .val (.int p1), .val (.int (0 : Int32)), .unset, .unset, .unset, .unset, .unset] [(.int (5 : Int32)), (.int (p1 &&& (2147483647 : Int32)))])) _
    refine iremM X0 hx rfl (hb hby at_12) rfl (by decide) ?_
    show Steps p.tables e below (s₁.setTop (mkF m 13 #[.val (.int p0), .val (.int p1), .val (.int (0 : Int32)), .unset, .unset, .unset, .unset, .unset] [(.int ((p1 &&& (2147483647 : Int32)) % (5 : Int32)))])) _
    rw [hk1]
    show Steps p.tables e below (s₁.setTop (mkF m 13 #[.val (.int p0), .val (.int p1), .val (.int (0 : Int32)), .unset, .unset, .unset, .unset, .unset] [(.int (4 : Int32))])) _
    refine XS.istoreN X0.here hx rfl (hb hby at_13) rfl (l' := #[.val (.int p0), .val (.int p1), .val (.int (0 : Int32)), .val (.int (4 : Int32)), .unset, .unset, .unset, .unset]) rfl ?_
    show Steps p.tables e below (s₁.setTop (mkF m 14 #[.val (.int p0), .val (.int p1), .val (.int (0 : Int32)), .val (.int (4 : Int32)), .unset, .unset, .unset, .unset] [])) _
    refine XS.iloadN X0.here hx rfl (hb hby at_14) rfl ?_
    show Steps p.tables e below (s₁.setTop (mkF m 15 #[.val (.int p0), .val (.int p1), .val (.int (0 : Int32)), .val (.int (4 : Int32)), .unset, .unset, .unset, .unset] [(.int (0 : Int32))])) _
    refine st1 _ ?_
    show Steps p.tables e below (T1.setTop (mkF m 18 #[.val (.int p0), .val (.int p1), .val (.int (0 : Int32)), .val (.int (4 : Int32)), .unset, .unset, .unset, .unset] [(.ref a_READ)])) _
    refine XS.astore X1.here hx rfl (hb hby at_18) rfl rfl (l' := #[.val (.int p0), .val (.int p1), .val (.int (0 : Int32)), .val (.int (4 : Int32)), .val (.ref a_READ), .unset, .unset, .unset]) rfl ?_
    show Steps p.tables e below (T1.setTop (mkF m 20 #[.val (.int p0), .val (.int p1), .val (.int (0 : Int32)), .val (.int (4 : Int32)), .val (.ref a_READ), .unset, .unset, .unset] [])) _
    refine XS.iloadN X1.here hx rfl (hb hby at_20) rfl ?_
    show Steps p.tables e below (T1.setTop (mkF m 21 #[.val (.int p0), .val (.int p1), .val (.int (0 : Int32)), .val (.int (4 : Int32)), .val (.ref a_READ), .unset, .unset, .unset] [(.int (4 : Int32))])) _
    refine st2 _ ?_
    show Steps p.tables e below (T2.setTop (mkF m 24 #[.val (.int p0), .val (.int p1), .val (.int (0 : Int32)), .val (.int (4 : Int32)), .val (.ref a_READ), .unset, .unset, .unset] [(.ref a_ABORT)])) _
    refine XS.astore X2.here hx rfl (hb hby at_24) rfl rfl (l' := #[.val (.int p0), .val (.int p1), .val (.int (0 : Int32)), .val (.int (4 : Int32)), .val (.ref a_READ), .val (.ref a_ABORT), .unset, .unset]) rfl ?_
    show Steps p.tables e below (T2.setTop (mkF m 26 #[.val (.int p0), .val (.int p1), .val (.int (0 : Int32)), .val (.int (4 : Int32)), .val (.ref a_READ), .val (.ref a_ABORT), .unset, .unset] [])) _
    refine st3 _ ?_
    show Steps p.tables e below (T3.setTop (mkF m 151 #[.val (.int p0), .val (.int p1), .val (.int (0 : Int32)), .val (.int (4 : Int32)), .val (.ref a_READ), .val (.ref a_ABORT), .val (.ref b3), .unset] [])) _
    refine XS.aload X3.here hx rfl (hb hby at_151) rfl rfl ?_
    show Steps p.tables e below (T3.setTop (mkF m 153 #[.val (.int p0), .val (.int p1), .val (.int (0 : Int32)), .val (.int (4 : Int32)), .val (.ref a_READ), .val (.ref a_ABORT), .val (.ref b3), .unset] [(.ref b3)])) _
    refine XS.iloadN X3.here hx rfl (hb hby at_153) rfl ?_
    show Steps p.tables e below (T3.setTop (mkF m 154 #[.val (.int p0), .val (.int p1), .val (.int (0 : Int32)), .val (.int (4 : Int32)), .val (.ref a_READ), .val (.ref a_ABORT), .val (.ref b3), .unset] [(.int (0 : Int32)), (.ref b3)])) _
    refine XS.iconst X3.here hx rfl (hb hby at_154) ?_
    show Steps p.tables e below (T3.setTop (mkF m 155 #[.val (.int p0), .val (.int p1), .val (.int (0 : Int32)), .val (.int (4 : Int32)), .val (.ref a_READ), .val (.ref a_ABORT), .val (.ref b3), .unset] [(.int (5 : Int32)), (.int (0 : Int32)), (.ref b3)])) _
    refine XS.imul X3.here hx rfl (hb hby at_155) rfl ?_
    show Steps p.tables e below (T3.setTop (mkF m 156 #[.val (.int p0), .val (.int p1), .val (.int (0 : Int32)), .val (.int (4 : Int32)), .val (.ref a_READ), .val (.ref a_ABORT), .val (.ref b3), .unset] [(.int ((0 : Int32) * (5 : Int32))), (.ref b3)])) _
    rw [(by decide : ((0 : Int32) * (5 : Int32)) = (0 : Int32))]
    show Steps p.tables e below (T3.setTop (mkF m 156 #[.val (.int p0), .val (.int p1), .val (.int (0 : Int32)), .val (.int (4 : Int32)), .val (.ref a_READ), .val (.ref a_ABORT), .val (.ref b3), .unset] [(.int (0 : Int32)), (.ref b3)])) _
    refine XS.iloadN X3.here hx rfl (hb hby at_156) rfl ?_
    show Steps p.tables e below (T3.setTop (mkF m 157 #[.val (.int p0), .val (.int p1), .val (.int (0 : Int32)), .val (.int (4 : Int32)), .val (.ref a_READ), .val (.ref a_ABORT), .val (.ref b3), .unset] [(.int (4 : Int32)), (.int (0 : Int32)), (.ref b3)])) _
    refine XS.iadd X3.here hx rfl (hb hby at_157) rfl ?_
    show Steps p.tables e below (T3.setTop (mkF m 158 #[.val (.int p0), .val (.int p1), .val (.int (0 : Int32)), .val (.int (4 : Int32)), .val (.ref a_READ), .val (.ref a_ABORT), .val (.ref b3), .unset] [(.int ((0 : Int32) + (4 : Int32))), (.ref b3)])) _
    rw [(by decide : ((0 : Int32) + (4 : Int32)) = (4 : Int32))]
    show Steps p.tables e below (T3.setTop (mkF m 158 #[.val (.int p0), .val (.int p1), .val (.int (0 : Int32)), .val (.int (4 : Int32)), .val (.ref a_READ), .val (.ref a_ABORT), .val (.ref b3), .unset] [(.int (4 : Int32)), (.ref b3)])) _
    refine X3.baloadBooleans hx (j := (4 : Int32)) (v := (.int (0 : Int32))) (by rw [e3]; exact r4.1) (State.isArrayOf_alike hZ.alike r4.2.1) r4.2.2 i4 y4 (g := (mkF m 158 #[.val (.int p0), .val (.int p1), .val (.int (0 : Int32)), .val (.int (4 : Int32)), .val (.ref a_READ), .val (.ref a_ABORT), .val (.ref b3), .unset] [(.int (4 : Int32)), (.ref b3)])) rfl rfl (hb hby at_158) _ ?_
    show Steps p.tables e below (T3.setTop (mkF m 159 #[.val (.int p0), .val (.int p1), .val (.int (0 : Int32)), .val (.int (4 : Int32)), .val (.ref a_READ), .val (.ref a_ABORT), .val (.ref b3), .unset] [(.int (0 : Int32))])) _
    refine XS.istore X3.here hx rfl (hb hby at_159) rfl (l' := #[.val (.int p0), .val (.int p1), .val (.int (0 : Int32)), .val (.int (4 : Int32)), .val (.ref a_READ), .val (.ref a_ABORT), .val (.ref b3), .val (.int (0 : Int32))]) rfl ?_
    show Steps p.tables e below (T3.setTop (mkF m 161 #[.val (.int p0), .val (.int p1), .val (.int (0 : Int32)), .val (.int (4 : Int32)), .val (.ref a_READ), .val (.ref a_ABORT), .val (.ref b3), .val (.int (0 : Int32))] [])) _
    refine XS.aload X3.here hx rfl (hb hby at_161) rfl rfl ?_
    show Steps p.tables e below (T3.setTop (mkF m 163 #[.val (.int p0), .val (.int p1), .val (.int (0 : Int32)), .val (.int (4 : Int32)), .val (.ref a_READ), .val (.ref a_ABORT), .val (.ref b3), .val (.int (0 : Int32))] [(.ref a_READ)])) _
    refine XS.aload X3.here hx rfl (hb hby at_163) rfl rfl ?_
    show Steps p.tables e below (T3.setTop (mkF m 165 #[.val (.int p0), .val (.int p1), .val (.int (0 : Int32)), .val (.int (4 : Int32)), .val (.ref a_READ), .val (.ref a_ABORT), .val (.ref b3), .val (.int (0 : Int32))] [(.ref a_ABORT), (.ref a_READ)])) _
    refine st5.trans ?_
    show Steps p.tables e below (T5.setTop (mkF m 168 #[.val (.int p0), .val (.int p1), .val (.int (0 : Int32)), .val (.int (4 : Int32)), .val (.ref a_READ), .val (.ref a_ABORT), .val (.ref b3), .val (.int (0 : Int32))] [(.int (0 : Int32))])) _
    refine XS.iload X5.here hx rfl (hb hby at_168) rfl ?_
    show Steps p.tables e below (T5.setTop (mkF m 170 #[.val (.int p0), .val (.int p1), .val (.int (0 : Int32)), .val (.int (4 : Int32)), .val (.ref a_READ), .val (.ref a_ABORT), .val (.ref b3), .val (.int (0 : Int32))] [(.int (0 : Int32)), (.int (0 : Int32))])) _
    refine XS.icmpNo X5.here hx rfl (hb hby at_170) rfl (by decide) ?_
    show Steps p.tables e below (T5.setTop (mkF m 173 #[.val (.int p0), .val (.int p1), .val (.int (0 : Int32)), .val (.int (4 : Int32)), .val (.ref a_READ), .val (.ref a_ABORT), .val (.ref b3), .val (.int (0 : Int32))] [])) _
    refine XS.iconst X5.here hx rfl (hb hby at_173) ?_
    show Steps p.tables e below (T5.setTop (mkF m 174 #[.val (.int p0), .val (.int p1), .val (.int (0 : Int32)), .val (.int (4 : Int32)), .val (.ref a_READ), .val (.ref a_ABORT), .val (.ref b3), .val (.int (0 : Int32))] [(.int (1 : Int32))])) _
    refine XS.goto X5.here hx rfl (pc0 := 174) (pc' := 178) rfl (hb hby at_174) (by decide) (by decide) ?_
    show Steps p.tables e below (T5.setTop (mkF m 178 #[.val (.int p0), .val (.int p1), .val (.int (0 : Int32)), .val (.int (4 : Int32)), .val (.ref a_READ), .val (.ref a_ABORT), .val (.ref b3), .val (.int (0 : Int32))] [(.int (1 : Int32))])) _
    exact retN X5 hx (t := .boolean) Bd.returns (by simp) (hb hby at_178) hr
  · exact ⟨rfl, N5⟩
set_option maxRecDepth 65536 in
set_option maxHeartbeats 40000000 in
theorem rm2_5 (l : Launch) (Z : State) (a0 : Array Value) (hw : ∀ d ∈ tables_1, d.before a0 Z = true) (ws : List Jvm.Cond) (p0 p1 : Int32) (a_READ a_COMMIT a_ABORT a_WRITE a_INCREMENT : Addr) (h0 : Heap) (n0 : Nat) (Z0 : n0 ≤ h0.size) (FF : Facts Z h0 a_READ a_COMMIT a_ABORT a_WRITE a_INCREMENT) :
    MetFree l (⟨"com/example/schedulock/schedulock/schedule/OperationKind", "conflictsWith", "(Lcom/example/schedulock/schedulock/schedule/OperationKind;)Z"⟩ : MethodName) (head1 (Jvm.Cond.code (⟨"com/example/schedulock/schedulock/schedule/OperationKind", "conflictsWith", "(Lcom/example/schedulock/schedulock/schedule/OperationKind;)Z"⟩ : MethodName) prog_31_method_5_code 2 (some .boolean) :: ws) ({ frames := 0, cells := 0, slots := 0, locals := 0 } : Room)) (fun a U => a = #[(.ref a_WRITE), (.ref a_READ)] ∧ Z.Warmed39 U.vm ∧ U.heap = h0) (fun _ _ _ _ _ => True) (fun _ U o U' => ∃ v L, o = .returned v ∧ own_Q (.int (1 : Int32)) h0 n0 v U'.heap L ∧ FrameEnd U o U' L ({ frames := 0, cells := 0, slots := 0, locals := 0 } : Room).cells ({ frames := 0, cells := 0, slots := 0, locals := 0 } : Room).slots) := by
  refine MetFree.of_bodySF (plainFor_of_name pn_2) hisR ?_
  intro p e s m args below meth c s₁ Bd hml0 hP hK
  obtain ⟨rfl, hZ, hh⟩ := hP
  have hx := Bd.exec
  have hby := Bd.bytes
  have hml : c.maxLocals = 2 := hml0
  have hown : s.vm.findClass "com/example/schedulock/schedulock/schedule/OperationKind" = some m.cls := findClass_of_methodNamed Bd.named
  have X0 : Stand p l e ({ frames := 0, cells := 0, slots := 0, locals := 0 } : Room) s m #[(.ref a_WRITE), (.ref a_READ)] below meth c s₁ [] 0 0 := Stand.of_body Bd
  have e0 : s₁.heap = h0 := by rw [← hh, Bd.state]; rfl
  have N0 := Fr.nil n0
  have pre0 : ∀ t, Steps p.tables e below (s₁.setTop (mkF m 0 #[.val (.ref a_WRITE), .val (.ref a_READ)] [])) t → Steps p.tables e below (s₁.setTop (entryFrame m #[(.ref a_WRITE), (.ref a_READ)] 2)) t := fun t k => castTop (ef_2 m a_WRITE a_READ) k
  obtain ⟨T1, X1, e1, st1⟩ := getF X0 hx hZ hown (host := "") (Or.inl (hw _ (List.mem_of_getElem? (i := 16) rfl))) Via.refl e0 (fx_F_WRITE_takesItem FF) (g := (mkF m 1 #[.val (.ref a_WRITE), .val (.ref a_READ)] [(.ref a_WRITE)])) rfl rfl (hb hby d2_1)
  obtain ⟨T2, X2, e2, st2⟩ := getF X1 hx hZ hown (host := "") (Or.inl (hw _ (List.mem_of_getElem? (i := 16) rfl))) Via.refl e1 (fx_F_READ_takesItem FF) (g := (mkF m 8 #[.val (.ref a_WRITE), .val (.ref a_READ)] [(.ref a_READ)])) rfl rfl (hb hby d2_8)
  obtain ⟨fs, hr, hrun, hended, hW, hsame⟩ := X2.leave (v := some (.int (1 : Int32))) (fun h => by rw [Bd.returns] at h; cases h)
  refine ⟨_, _, pre0 _ ?_, hrun, hended, _, _, rfl, ?_, ⟨_, rfl⟩, hW, hsame.mono (by decide) (by decide)⟩
  · show Steps p.tables e below (s₁.setTop (mkF m 0 #[.val (.ref a_WRITE), .val (.ref a_READ)] [])) _
    refine XS.aloadN X0.here hx rfl (hb hby d2_0) rfl rfl ?_
    show Steps p.tables e below (s₁.setTop (mkF m 1 #[.val (.ref a_WRITE), .val (.ref a_READ)] [(.ref a_WRITE)])) _
    refine st1 _ ?_
    show Steps p.tables e below (T1.setTop (mkF m 4 #[.val (.ref a_WRITE), .val (.ref a_READ)] [(.int (1 : Int32))])) _
    refine XS.ifNo X1.here hx rfl (hb hby d2_4) rfl (by decide) ?_
    show Steps p.tables e below (T1.setTop (mkF m 7 #[.val (.ref a_WRITE), .val (.ref a_READ)] [])) _
    refine XS.aloadN X1.here hx rfl (hb hby d2_7) rfl rfl ?_
    show Steps p.tables e below (T1.setTop (mkF m 8 #[.val (.ref a_WRITE), .val (.ref a_READ)] [(.ref a_READ)])) _
    refine st2 _ ?_
    show Steps p.tables e below (T2.setTop (mkF m 11 #[.val (.ref a_WRITE), .val (.ref a_READ)] [(.int (1 : Int32))])) _
    refine XS.ifNo X2.here hx rfl (hb hby d2_11) rfl (by decide) ?_
    show Steps p.tables e below (T2.setTop (mkF m 14 #[.val (.ref a_WRITE), .val (.ref a_READ)] [])) _
    refine XS.aloadN X2.here hx rfl (hb hby d2_14) rfl rfl ?_
    show Steps p.tables e below (T2.setTop (mkF m 15 #[.val (.ref a_WRITE), .val (.ref a_READ)] [(.ref a_WRITE)])) _
    refine XS.aloadN X2.here hx rfl (hb hby d2_15) rfl rfl ?_
    show Steps p.tables e below (T2.setTop (mkF m 16 #[.val (.ref a_WRITE), .val (.ref a_READ)] [(.ref a_READ), (.ref a_WRITE)])) _
    refine Jvm.RoadKit.acmp (g := (mkF m 16 #[.val (.ref a_WRITE), .val (.ref a_READ)] [(.ref a_READ), (.ref a_WRITE)])) X2 hx rfl rfl rfl (pc0 := 16) (pc' := 26) (same := false) rfl (hb hby d2_16) rfl (decide_eq_false fun q => Fld.ne (fx_F_WRITE_commutesWithItself FF) (fx_F_READ_commutesWithItself FF) (by decide) (Value.ref.inj q)) (by decide) (by decide) ?_
    show Steps p.tables e below (T2.setTop (mkF m 26 #[.val (.ref a_WRITE), .val (.ref a_READ)] [])) _
    refine XS.iconst X2.here hx rfl (hb hby d2_26) ?_
    show Steps p.tables e below (T2.setTop (mkF m 27 #[.val (.ref a_WRITE), .val (.ref a_READ)] [(.int (1 : Int32))])) _
    refine XS.goto X2.here hx rfl (pc0 := 27) (pc' := 31) rfl (hb hby d2_27) (by decide) (by decide) ?_
    show Steps p.tables e below (T2.setTop (mkF m 31 #[.val (.ref a_WRITE), .val (.ref a_READ)] [(.int (1 : Int32))])) _
    exact retN X2 hx (t := .boolean) Bd.returns (by simp) (hb hby d2_31) hr
  · show own_Q _ _ _ _ T2.heap _
    exact ⟨rfl, N0, e2⟩
set_option maxRecDepth 65536 in
set_option maxHeartbeats 40000000 in
theorem rm0_5 (l : Launch) (Z : State) (a0 : Array Value) (hw : ∀ d ∈ tables_1, d.before a0 Z = true) (ws : List Jvm.Cond) (p0 p1 : Int32) (a_READ a_COMMIT a_ABORT a_WRITE a_INCREMENT : Addr) (h0 : Heap) (n0 : Nat) (Z0 : n0 ≤ h0.size) (FF : Facts Z h0 a_READ a_COMMIT a_ABORT a_WRITE a_INCREMENT) (hk0 : ((p0 &&& (2147483647 : Int32)) % (5 : Int32)) = (1 : Int32)) (hk1 : ((p1 &&& (2147483647 : Int32)) % (5 : Int32)) = (0 : Int32)) :
    MetFree l x (head1 (Jvm.Cond.code x code maxLocals ret :: ws) room_1) (fun a U => a = #[(.int p0), (.int p1)] ∧ Z.Warmed39 U.vm ∧ U.heap = h0) (fun _ _ _ _ _ => True) (fun _ U o U' => ∃ v L, o = .returned v ∧ (v = some (.int (1 : Int32)) ∧ Fr n0 L) ∧ FrameEnd U o U' L room_1.cells room_1.slots) := by
  refine MetFree.of_bodySF (plainFor_of_name pn_0) hisR ?_
  intro p e s m args below meth c s₁ Bd hml0 hP hK
  obtain ⟨rfl, hZ, hh⟩ := hP
  have hx := Bd.exec
  have hby := Bd.bytes
  have hml : c.maxLocals = 8 := hml0
  have hown : s.vm.findClass "com/example/schedulock/schedulock/schedule/OperationKindConflictsWithPinLaw" = some m.cls := findClass_of_methodNamed Bd.named
  have X0 : Stand p l e room_1 s m #[(.int p0), (.int p1)] below meth c s₁ [] 0 0 := Stand.of_body Bd
  have e0 : s₁.heap = h0 := by rw [← hh, Bd.state]; rfl
  have N0 := Fr.nil n0
  have pre0 : ∀ t, Steps p.tables e below (s₁.setTop (mkF m 0 #[.val (.int p0), .val (.int p1), .unset, .unset, .unset, .unset, .unset, .unset] [])) t → Steps p.tables e below (s₁.setTop (entryFrame m #[(.int p0), (.int p1)] maxLocals)) t := fun t k => castTop (ef_0 m p0 p1) k
  obtain ⟨_, _, ⟨T1, L1, k1, n1⟩, -, X1, ⟨Lc1, hQ1, l1, y1, z1⟩, st1⟩ := Jvm.LawKit.callS X0 hx (y := (⟨"com/example/schedulock/schedulock/schedule/OperationKindConflictsWithPinLaw", "kind", "(I)Lcom/example/schedulock/schedulock/schedule/OperationKind;"⟩ : MethodName)) hown (mvT hZ (hw _ (List.mem_of_getElem? (i := 1) rfl))) (mvT hZ (hw _ (List.mem_of_getElem? (i := 2) rfl))) (mvT hZ (hw _ (List.mem_of_getElem? (i := 3) rfl))) (mvT hZ (hw _ (List.mem_of_getElem? (i := 4) rfl))) (by decide) (backOf (W := 0) (rm1_1 l Z a0 hw [] p0 p1 a_READ a_COMMIT a_ABORT a_WRITE a_INCREMENT h0 n0 (Nat.le_trans Z0 (Nat.le_refl _)) FF) hZ (hw _ (List.mem_of_getElem? (i := 4) rfl)) (hw _ (List.mem_of_getElem? (i := 3) rfl)) (by decide) (by decide)) (g := (mkF m 15 #[.val (.int p0), .val (.int p1), .val (.int (1 : Int32)), .val (.int (0 : Int32)), .unset, .unset, .unset, .unset] [(.int (1 : Int32))])) rfl (by rw [hml]; rfl) (argsL := [(.int (1 : Int32))]) (rest := []) (lenOf pd_0 rfl) rfl (by show 2 * 0 + _ ≤ _; exact Nat.le_of_eq rfl) (hb hby at_15) (fun _ _ => ⟨rfl, e0, (by decide : 0 + 0 ≤ _), (by decide : 0 + 0 ≤ _)⟩)
  dsimp only [Pt.U, Pt.locs, Pt.cells, Pt.slots] at X1 l1 y1 z1 st1 hQ1
  subst l1 y1 z1
  obtain ⟨rfl, N1q, e1⟩ := hQ1
  have N1 := Fr.app N0 N1q
  obtain ⟨_, _, ⟨T2, L2, k2, n2⟩, -, X2, ⟨Lc2, hQ2, l2, y2, z2⟩, st2⟩ := Jvm.LawKit.callS X1 hx (y := (⟨"com/example/schedulock/schedulock/schedule/OperationKindConflictsWithPinLaw", "kind", "(I)Lcom/example/schedulock/schedulock/schedule/OperationKind;"⟩ : MethodName)) hown (mvT hZ (hw _ (List.mem_of_getElem? (i := 1) rfl))) (mvT hZ (hw _ (List.mem_of_getElem? (i := 2) rfl))) (mvT hZ (hw _ (List.mem_of_getElem? (i := 3) rfl))) (mvT hZ (hw _ (List.mem_of_getElem? (i := 4) rfl))) (by decide) (backOf (W := 0) (rm1_0 l Z a0 hw [] p0 p1 a_READ a_COMMIT a_ABORT a_WRITE a_INCREMENT h0 n0 (Nat.le_trans Z0 (Nat.le_refl _)) FF) hZ (hw _ (List.mem_of_getElem? (i := 4) rfl)) (hw _ (List.mem_of_getElem? (i := 3) rfl)) (by decide) (by decide)) (g := (mkF m 21 #[.val (.int p0), .val (.int p1), .val (.int (1 : Int32)), .val (.int (0 : Int32)), .val (.ref a_WRITE), .unset, .unset, .unset] [(.int (0 : Int32))])) rfl (by rw [hml]; rfl) (argsL := [(.int (0 : Int32))]) (rest := []) (lenOf pd_0 rfl) rfl (by show 2 * 0 + _ ≤ _; exact Nat.le_of_eq rfl) (hb hby at_21) (fun _ _ => ⟨rfl, e1, (by decide : 0 + 0 ≤ _), (by decide : 0 + 0 ≤ _)⟩)
  dsimp only [Pt.U, Pt.locs, Pt.cells, Pt.slots] at X2 l2 y2 z2 st2 hQ2
  subst l2 y2 z2
  obtain ⟨rfl, N2q, e2⟩ := hQ2
  have N2 := Fr.app N1 N2q
  obtain ⟨T3, h3, b3, k3, lc3, X3, e3, s_b3, z3, N3, FF3, V3, st3⟩ := seg_0 (l := l) (Z := Z) hw a_READ a_COMMIT a_ABORT a_WRITE a_INCREMENT p0 p1 (1 : Int32) (0 : Int32) a_WRITE a_READ X2 hx hZ hby hml hown e2 Z0 N2 FF
  obtain ⟨c4, r4, -, S4, -, H4, -⟩ := V3
  have i4 : ¬ ((5 : Int32) < 0 ∨ c4.slots.size ≤ ((5 : Int32)).toNatClampNeg) := inb_of S4 ⟨by decide, by decide⟩
  have y4 : c4.slots[((5 : Int32)).toNatClampNeg]? = some (.int (1 : Int32)) := H4 5 (by rw [S4]; decide)
  obtain ⟨cq5, kq5, q5a, q5b, q5c⟩ := isOf hZ e3 (fx_E_WRITE FF3)
  obtain ⟨_, _, ⟨T5, L5, k5, n5⟩, -, X5, ⟨Lc5, hQ5, l5, y5, z5⟩, st5⟩ := X3.virtualBack hx (y := (⟨"com/example/schedulock/schedulock/schedule/OperationKind", "conflictsWith", "(Lcom/example/schedulock/schedulock/schedule/OperationKind;)Z"⟩ : MethodName)) (z := (⟨"com/example/schedulock/schedulock/schedule/OperationKind", "conflictsWith", "(Lcom/example/schedulock/schedulock/schedule/OperationKind;)Z"⟩ : MethodName)) hown (mvT hZ (hw _ (List.mem_of_getElem? (i := 11) rfl))) (mvT hZ (hw _ (List.mem_of_getElem? (i := 12) rfl))) (notFace_of_selects (args := #[]) (mvT hZ (hw _ (List.mem_of_getElem? (i := 14) rfl)))) (mvT hZ (hw _ (List.mem_of_getElem? (i := 14) rfl))) (mvT hZ (hw _ (List.mem_of_getElem? (i := 13) rfl))) (by decide) (backOf (W := 0) (rm2_5 l Z a0 hw [] p0 p1 a_READ a_COMMIT a_ABORT a_WRITE a_INCREMENT h3 n0 (Nat.le_trans Z0 z3) FF3) hZ (hw _ (List.mem_of_getElem? (i := 15) rfl)) (hw _ (List.mem_of_getElem? (i := 6) rfl)) (by decide) (by decide)) q5a q5c (g := (mkF m 165 #[.val (.int p0), .val (.int p1), .val (.int (1 : Int32)), .val (.int (0 : Int32)), .val (.ref a_WRITE), .val (.ref a_READ), .val (.ref b3), .val (.int (1 : Int32))] [(.ref a_READ), (.ref a_WRITE)])) rfl (by rw [hml]; rfl) (Steps.refl _) (argsL := [(.ref a_READ)]) (rest := []) (lenOf pd_1 rfl) rfl (by show 2 * 0 + _ ≤ _; exact Nat.le_of_eq rfl) (hb hby at_165) (fun _ _ => ⟨rfl, e3, (by decide : 1 + 0 ≤ _), (by decide : 25 + 0 ≤ _)⟩)
  dsimp only [Pt.U, Pt.locs, Pt.cells, Pt.slots] at X5 l5 y5 z5 st5 hQ5
  subst l5 y5 z5
  obtain ⟨rfl, N5q, e5⟩ := hQ5
  have N5 := Fr.app N3 N5q
  obtain ⟨fs, hr, hrun, hended, hW, hsame⟩ := X5.leave (v := some (.int (1 : Int32))) (fun h => by rw [Bd.returns] at h; cases h)
  refine ⟨_, _, pre0 _ ?_, hrun, hended, _, _, rfl, ?_, ⟨_, rfl⟩, hW, hsame.mono (by decide) (by decide)⟩
  · show Steps p.tables e below (s₁.setTop (mkF m 0 #[.val (.int p0), .val (.int p1), .unset, .unset, .unset, .unset, .unset, .unset] [])) _
    refine XS.iloadN X0.here hx rfl (hb hby at_0) rfl ?_
    show Steps p.tables e below (s₁.setTop (mkF m 1 #[.val (.int p0), .val (.int p1), .unset, .unset, .unset, .unset, .unset, .unset] [(.int p0)])) _
    refine X0.ldcInt hx hown (mvT hZ (hw _ (List.mem_of_getElem? (i := 0) rfl))) (g := (mkF m 1 #[.val (.int p0), .val (.int p1), .unset, .unset, .unset, .unset, .unset, .unset] [(.int p0)])) rfl (hb hby at_1) _ ?_
    show Steps p.tables e below (s₁.setTop (mkF m 3 #[.val (.int p0), .val (.int p1), .unset, .unset, .unset, .unset, .unset, .unset] [(.int (2147483647 : Int32)), (.int p0)])) _
    refine XS.iand X0.here hx rfl (hb hby at_3) rfl ?_
    show Steps p.tables e below (s₁.setTop (mkF m 4 #[.val (.int p0), .val (.int p1), .unset, .unset, .unset, .unset, .unset, .unset] [(.int (p0 &&& (2147483647 : Int32)))])) _
    refine XS.iconst X0.here hx rfl (hb hby at_4) ?_
    show Steps p.tables e below (s₁.setTop (mkF m 5 #[.val (.int p0), .val (.int p1), .unset, .unset, .unset, .unset, .unset, .unset] [(.int (5 : Int32)), (.int (p0 &&& (2147483647 : Int32)))])) _
    refine iremM X0 hx rfl (hb hby at_5) rfl (by decide) ?_
    show Steps p.tables e below (s₁.setTop (mkF m 6 #[.val (.int p0), .val (.int p1), .unset, .unset, .unset, .unset, .unset, .unset] [(.int ((p0 &&& (2147483647 : Int32)) % (5 : Int32)))])) _
    rw [hk0]
    show Steps p.tables e below (s₁.setTop (mkF m 6 #[.val (.int p0), .val (.int p1), .unset, .unset, .unset, .unset, .unset, .unset] [(.int (1 : Int32))])) _
    refine XS.istoreN X0.here hx rfl (hb hby at_6) rfl (l' := #[.val (.int p0), .val (.int p1), .val (.int (1 : Int32)), .unset, .unset, .unset, .unset, .unset]) rfl ?_
    show Steps p.tables e below (s₁.setTop (mkF m 7 #[.val (.int p0), .val (.int p1), .val (.int (1 : Int32)), .unset, .unset, .unset, .unset, .unset] [])) _
    refine XS.iloadN X0.here hx rfl (hb hby at_7) rfl ?_
    show Steps p.tables e below (s₁.setTop (mkF m 8 #[.val (.int p0), .val (.int p1), .val (.int (1 : Int32)), .unset, .unset, .unset, .unset, .unset] [(.int p1)])) _
    refine X0.ldcInt hx hown (mvT hZ (hw _ (List.mem_of_getElem? (i := 0) rfl))) (g := (mkF m 8 #[.val (.int p0), .val (.int p1), .val (.int (1 : Int32)), .unset, .unset, .unset, .unset, .unset] [(.int p1)])) rfl (hb hby at_8) _ ?_
    show Steps p.tables e below (s₁.setTop (mkF m 10 #[.val (.int p0), .val (.int p1), .val (.int (1 : Int32)), .unset, .unset, .unset, .unset, .unset] [(.int (2147483647 : Int32)), (.int p1)])) _
    refine XS.iand X0.here hx rfl (hb hby at_10) rfl ?_
    show Steps p.tables e below (s₁.setTop (mkF m 11 #[.val (.int p0), .val (.int p1), .val (.int (1 : Int32)), .unset, .unset, .unset, .unset, .unset] [(.int (p1 &&& (2147483647 : Int32)))])) _
    refine XS.iconst X0.here hx rfl (hb hby at_11) ?_
    show Steps p.tables e below (s₁.setTop (mkF m 12 #[.val (.int p0), .val (.int p1), .val (.int (1 : Int32)), .unset, .unset, .unset, .unset, .unset] [(.int (5 : Int32)), (.int (p1 &&& (2147483647 : Int32)))])) _
    refine iremM X0 hx rfl (hb hby at_12) rfl (by decide) ?_
    show Steps p.tables e below (s₁.setTop (mkF m 13 #[.val (.int p0), .val (.int p1), .val (.int (1 : Int32)), .unset, .unset, .unset, .unset, .unset] [(.int ((p1 &&& (2147483647 : Int32)) % (5 : Int32)))])) _
    rw [hk1]
    show Steps p.tables e below (s₁.setTop (mkF m 13 #[.val (.int p0), .val (.int p1), .val (.int (1 : Int32)), .unset, .unset, .unset, .unset, .unset] [(.int (0 : Int32))])) _
    refine XS.istoreN X0.here hx rfl (hb hby at_13) rfl (l' := #[.val (.int p0), .val (.int p1), .val (.int (1 : Int32)), .val (.int (0 : Int32)), .unset, .unset, .unset, .unset]) rfl ?_
    show Steps p.tables e below (s₁.setTop (mkF m 14 #[.val (.int p0), .val (.int p1), .val (.int (1 : Int32)), .val (.int (0 : Int32)), .unset, .unset, .unset, .unset] [])) _
    refine XS.iloadN X0.here hx rfl (hb hby at_14) rfl ?_
    show Steps p.tables e below (s₁.setTop (mkF m 15 #[.val (.int p0), .val (.int p1), .val (.int (1 : Int32)), .val (.int (0 : Int32)), .unset, .unset, .unset, .unset] [(.int (1 : Int32))])) _
    refine st1 _ ?_
    show Steps p.tables e below (T1.setTop (mkF m 18 #[.val (.int p0), .val (.int p1), .val (.int (1 : Int32)), .val (.int (0 : Int32)), .unset, .unset, .unset, .unset] [(.ref a_WRITE)])) _
    refine XS.astore X1.here hx rfl (hb hby at_18) rfl rfl (l' := #[.val (.int p0), .val (.int p1), .val (.int (1 : Int32)), .val (.int (0 : Int32)), .val (.ref a_WRITE), .unset, .unset, .unset]) rfl ?_
    show Steps p.tables e below (T1.setTop (mkF m 20 #[.val (.int p0), .val (.int p1), .val (.int (1 : Int32)), .val (.int (0 : Int32)), .val (.ref a_WRITE), .unset, .unset, .unset] [])) _
    refine XS.iloadN X1.here hx rfl (hb hby at_20) rfl ?_
    show Steps p.tables e below (T1.setTop (mkF m 21 #[.val (.int p0), .val (.int p1), .val (.int (1 : Int32)), .val (.int (0 : Int32)), .val (.ref a_WRITE), .unset, .unset, .unset] [(.int (0 : Int32))])) _
    refine st2 _ ?_
    show Steps p.tables e below (T2.setTop (mkF m 24 #[.val (.int p0), .val (.int p1), .val (.int (1 : Int32)), .val (.int (0 : Int32)), .val (.ref a_WRITE), .unset, .unset, .unset] [(.ref a_READ)])) _
    refine XS.astore X2.here hx rfl (hb hby at_24) rfl rfl (l' := #[.val (.int p0), .val (.int p1), .val (.int (1 : Int32)), .val (.int (0 : Int32)), .val (.ref a_WRITE), .val (.ref a_READ), .unset, .unset]) rfl ?_
    show Steps p.tables e below (T2.setTop (mkF m 26 #[.val (.int p0), .val (.int p1), .val (.int (1 : Int32)), .val (.int (0 : Int32)), .val (.ref a_WRITE), .val (.ref a_READ), .unset, .unset] [])) _
    refine st3 _ ?_
    show Steps p.tables e below (T3.setTop (mkF m 151 #[.val (.int p0), .val (.int p1), .val (.int (1 : Int32)), .val (.int (0 : Int32)), .val (.ref a_WRITE), .val (.ref a_READ), .val (.ref b3), .unset] [])) _
    refine XS.aload X3.here hx rfl (hb hby at_151) rfl rfl ?_
    show Steps p.tables e below (T3.setTop (mkF m 153 #[.val (.int p0), .val (.int p1), .val (.int (1 : Int32)), .val (.int (0 : Int32)), .val (.ref a_WRITE), .val (.ref a_READ), .val (.ref b3), .unset] [(.ref b3)])) _
    refine XS.iloadN X3.here hx rfl (hb hby at_153) rfl ?_
    show Steps p.tables e below (T3.setTop (mkF m 154 #[.val (.int p0), .val (.int p1), .val (.int (1 : Int32)), .val (.int (0 : Int32)), .val (.ref a_WRITE), .val (.ref a_READ), .val (.ref b3), .unset] [(.int (1 : Int32)), (.ref b3)])) _
    refine XS.iconst X3.here hx rfl (hb hby at_154) ?_
    show Steps p.tables e below (T3.setTop (mkF m 155 #[.val (.int p0), .val (.int p1), .val (.int (1 : Int32)), .val (.int (0 : Int32)), .val (.ref a_WRITE), .val (.ref a_READ), .val (.ref b3), .unset] [(.int (5 : Int32)), (.int (1 : Int32)), (.ref b3)])) _
    refine XS.imul X3.here hx rfl (hb hby at_155) rfl ?_
    show Steps p.tables e below (T3.setTop (mkF m 156 #[.val (.int p0), .val (.int p1), .val (.int (1 : Int32)), .val (.int (0 : Int32)), .val (.ref a_WRITE), .val (.ref a_READ), .val (.ref b3), .unset] [(.int ((1 : Int32) * (5 : Int32))), (.ref b3)])) _
    rw [(by decide : ((1 : Int32) * (5 : Int32)) = (5 : Int32))]
    show Steps p.tables e below (T3.setTop (mkF m 156 #[.val (.int p0), .val (.int p1), .val (.int (1 : Int32)), .val (.int (0 : Int32)), .val (.ref a_WRITE), .val (.ref a_READ), .val (.ref b3), .unset] [(.int (5 : Int32)), (.ref b3)])) _
    refine XS.iloadN X3.here hx rfl (hb hby at_156) rfl ?_
    show Steps p.tables e below (T3.setTop (mkF m 157 #[.val (.int p0), .val (.int p1), .val (.int (1 : Int32)), .val (.int (0 : Int32)), .val (.ref a_WRITE), .val (.ref a_READ), .val (.ref b3), .unset] [(.int (0 : Int32)), (.int (5 : Int32)), (.ref b3)])) _
    refine XS.iadd X3.here hx rfl (hb hby at_157) rfl ?_
    show Steps p.tables e below (T3.setTop (mkF m 158 #[.val (.int p0), .val (.int p1), .val (.int (1 : Int32)), .val (.int (0 : Int32)), .val (.ref a_WRITE), .val (.ref a_READ), .val (.ref b3), .unset] [(.int ((5 : Int32) + (0 : Int32))), (.ref b3)])) _
    rw [(by decide : ((5 : Int32) + (0 : Int32)) = (5 : Int32))]
    show Steps p.tables e below (T3.setTop (mkF m 158 #[.val (.int p0), .val (.int p1), .val (.int (1 : Int32)), .val (.int (0 : Int32)), .val (.ref a_WRITE), .val (.ref a_READ), .val (.ref b3), .unset] [(.int (5 : Int32)), (.ref b3)])) _
    refine X3.baloadBooleans hx (j := (5 : Int32)) (v := (.int (1 : Int32))) (by rw [e3]; exact r4.1) (State.isArrayOf_alike hZ.alike r4.2.1) r4.2.2 i4 y4 (g := (mkF m 158 #[.val (.int p0), .val (.int p1), .val (.int (1 : Int32)), .val (.int (0 : Int32)), .val (.ref a_WRITE), .val (.ref a_READ), .val (.ref b3), .unset] [(.int (5 : Int32)), (.ref b3)])) rfl rfl (hb hby at_158) _ ?_
    show Steps p.tables e below (T3.setTop (mkF m 159 #[.val (.int p0), .val (.int p1), .val (.int (1 : Int32)), .val (.int (0 : Int32)), .val (.ref a_WRITE), .val (.ref a_READ), .val (.ref b3), .unset] [(.int (1 : Int32))])) _
    refine XS.istore X3.here hx rfl (hb hby at_159) rfl (l' := #[.val (.int p0), .val (.int p1), .val (.int (1 : Int32)), .val (.int (0 : Int32)), .val (.ref a_WRITE), .val (.ref a_READ), .val (.ref b3), .val (.int (1 : Int32))]) rfl ?_
    show Steps p.tables e below (T3.setTop (mkF m 161 #[.val (.int p0), .val (.int p1), .val (.int (1 : Int32)), .val (.int (0 : Int32)), .val (.ref a_WRITE), .val (.ref a_READ), .val (.ref b3), .val (.int (1 : Int32))] [])) _
    refine XS.aload X3.here hx rfl (hb hby at_161) rfl rfl ?_
    show Steps p.tables e below (T3.setTop (mkF m 163 #[.val (.int p0), .val (.int p1), .val (.int (1 : Int32)), .val (.int (0 : Int32)), .val (.ref a_WRITE), .val (.ref a_READ), .val (.ref b3), .val (.int (1 : Int32))] [(.ref a_WRITE)])) _
    refine XS.aload X3.here hx rfl (hb hby at_163) rfl rfl ?_
    show Steps p.tables e below (T3.setTop (mkF m 165 #[.val (.int p0), .val (.int p1), .val (.int (1 : Int32)), .val (.int (0 : Int32)), .val (.ref a_WRITE), .val (.ref a_READ), .val (.ref b3), .val (.int (1 : Int32))] [(.ref a_READ), (.ref a_WRITE)])) _
    refine st5.trans ?_
    show Steps p.tables e below (T5.setTop (mkF m 168 #[.val (.int p0), .val (.int p1), .val (.int (1 : Int32)), .val (.int (0 : Int32)), .val (.ref a_WRITE), .val (.ref a_READ), .val (.ref b3), .val (.int (1 : Int32))] [(.int (1 : Int32))])) _
    refine XS.iload X5.here hx rfl (hb hby at_168) rfl ?_
    show Steps p.tables e below (T5.setTop (mkF m 170 #[.val (.int p0), .val (.int p1), .val (.int (1 : Int32)), .val (.int (0 : Int32)), .val (.ref a_WRITE), .val (.ref a_READ), .val (.ref b3), .val (.int (1 : Int32))] [(.int (1 : Int32)), (.int (1 : Int32))])) _
    refine XS.icmpNo X5.here hx rfl (hb hby at_170) rfl (by decide) ?_
    show Steps p.tables e below (T5.setTop (mkF m 173 #[.val (.int p0), .val (.int p1), .val (.int (1 : Int32)), .val (.int (0 : Int32)), .val (.ref a_WRITE), .val (.ref a_READ), .val (.ref b3), .val (.int (1 : Int32))] [])) _
    refine XS.iconst X5.here hx rfl (hb hby at_173) ?_
    show Steps p.tables e below (T5.setTop (mkF m 174 #[.val (.int p0), .val (.int p1), .val (.int (1 : Int32)), .val (.int (0 : Int32)), .val (.ref a_WRITE), .val (.ref a_READ), .val (.ref b3), .val (.int (1 : Int32))] [(.int (1 : Int32))])) _
    refine XS.goto X5.here hx rfl (pc0 := 174) (pc' := 178) rfl (hb hby at_174) (by decide) (by decide) ?_
    show Steps p.tables e below (T5.setTop (mkF m 178 #[.val (.int p0), .val (.int p1), .val (.int (1 : Int32)), .val (.int (0 : Int32)), .val (.ref a_WRITE), .val (.ref a_READ), .val (.ref b3), .val (.int (1 : Int32))] [(.int (1 : Int32))])) _
    exact retN X5 hx (t := .boolean) Bd.returns (by simp) (hb hby at_178) hr
  · exact ⟨rfl, N5⟩
set_option maxRecDepth 65536 in
set_option maxHeartbeats 40000000 in
theorem rm2_6 (l : Launch) (Z : State) (a0 : Array Value) (hw : ∀ d ∈ tables_1, d.before a0 Z = true) (ws : List Jvm.Cond) (p0 p1 : Int32) (a_READ a_COMMIT a_ABORT a_WRITE a_INCREMENT : Addr) (h0 : Heap) (n0 : Nat) (Z0 : n0 ≤ h0.size) (FF : Facts Z h0 a_READ a_COMMIT a_ABORT a_WRITE a_INCREMENT) :
    MetFree l (⟨"com/example/schedulock/schedulock/schedule/OperationKind", "conflictsWith", "(Lcom/example/schedulock/schedulock/schedule/OperationKind;)Z"⟩ : MethodName) (head1 (Jvm.Cond.code (⟨"com/example/schedulock/schedulock/schedule/OperationKind", "conflictsWith", "(Lcom/example/schedulock/schedulock/schedule/OperationKind;)Z"⟩ : MethodName) prog_31_method_5_code 2 (some .boolean) :: ws) ({ frames := 0, cells := 0, slots := 0, locals := 0 } : Room)) (fun a U => a = #[(.ref a_WRITE), (.ref a_WRITE)] ∧ Z.Warmed39 U.vm ∧ U.heap = h0) (fun _ _ _ _ _ => True) (fun _ U o U' => ∃ v L, o = .returned v ∧ own_Q (.int (1 : Int32)) h0 n0 v U'.heap L ∧ FrameEnd U o U' L ({ frames := 0, cells := 0, slots := 0, locals := 0 } : Room).cells ({ frames := 0, cells := 0, slots := 0, locals := 0 } : Room).slots) := by
  refine MetFree.of_bodySF (plainFor_of_name pn_2) hisR ?_
  intro p e s m args below meth c s₁ Bd hml0 hP hK
  obtain ⟨rfl, hZ, hh⟩ := hP
  have hx := Bd.exec
  have hby := Bd.bytes
  have hml : c.maxLocals = 2 := hml0
  have hown : s.vm.findClass "com/example/schedulock/schedulock/schedule/OperationKind" = some m.cls := findClass_of_methodNamed Bd.named
  have X0 : Stand p l e ({ frames := 0, cells := 0, slots := 0, locals := 0 } : Room) s m #[(.ref a_WRITE), (.ref a_WRITE)] below meth c s₁ [] 0 0 := Stand.of_body Bd
  have e0 : s₁.heap = h0 := by rw [← hh, Bd.state]; rfl
  have N0 := Fr.nil n0
  have pre0 : ∀ t, Steps p.tables e below (s₁.setTop (mkF m 0 #[.val (.ref a_WRITE), .val (.ref a_WRITE)] [])) t → Steps p.tables e below (s₁.setTop (entryFrame m #[(.ref a_WRITE), (.ref a_WRITE)] 2)) t := fun t k => castTop (ef_2 m a_WRITE a_WRITE) k
  obtain ⟨T1, X1, e1, st1⟩ := getF X0 hx hZ hown (host := "") (Or.inl (hw _ (List.mem_of_getElem? (i := 16) rfl))) Via.refl e0 (fx_F_WRITE_takesItem FF) (g := (mkF m 1 #[.val (.ref a_WRITE), .val (.ref a_WRITE)] [(.ref a_WRITE)])) rfl rfl (hb hby d2_1)
  obtain ⟨T2, X2, e2, st2⟩ := getF X1 hx hZ hown (host := "") (Or.inl (hw _ (List.mem_of_getElem? (i := 16) rfl))) Via.refl e1 (fx_F_WRITE_takesItem FF) (g := (mkF m 8 #[.val (.ref a_WRITE), .val (.ref a_WRITE)] [(.ref a_WRITE)])) rfl rfl (hb hby d2_8)
  obtain ⟨T3, X3, e3, st3⟩ := getF X2 hx hZ hown (host := "") (Or.inl (hw _ (List.mem_of_getElem? (i := 22) rfl))) Via.refl e2 (fx_F_WRITE_commutesWithItself FF) (g := (mkF m 20 #[.val (.ref a_WRITE), .val (.ref a_WRITE)] [(.ref a_WRITE)])) rfl rfl (hb hby d2_20)
  obtain ⟨fs, hr, hrun, hended, hW, hsame⟩ := X3.leave (v := some (.int (1 : Int32))) (fun h => by rw [Bd.returns] at h; cases h)
  refine ⟨_, _, pre0 _ ?_, hrun, hended, _, _, rfl, ?_, ⟨_, rfl⟩, hW, hsame.mono (by decide) (by decide)⟩
  · show Steps p.tables e below (s₁.setTop (mkF m 0 #[.val (.ref a_WRITE), .val (.ref a_WRITE)] [])) _
    refine XS.aloadN X0.here hx rfl (hb hby d2_0) rfl rfl ?_
    show Steps p.tables e below (s₁.setTop (mkF m 1 #[.val (.ref a_WRITE), .val (.ref a_WRITE)] [(.ref a_WRITE)])) _
    refine st1 _ ?_
    show Steps p.tables e below (T1.setTop (mkF m 4 #[.val (.ref a_WRITE), .val (.ref a_WRITE)] [(.int (1 : Int32))])) _
    refine XS.ifNo X1.here hx rfl (hb hby d2_4) rfl (by decide) ?_
    show Steps p.tables e below (T1.setTop (mkF m 7 #[.val (.ref a_WRITE), .val (.ref a_WRITE)] [])) _
    refine XS.aloadN X1.here hx rfl (hb hby d2_7) rfl rfl ?_
    show Steps p.tables e below (T1.setTop (mkF m 8 #[.val (.ref a_WRITE), .val (.ref a_WRITE)] [(.ref a_WRITE)])) _
    refine st2 _ ?_
    show Steps p.tables e below (T2.setTop (mkF m 11 #[.val (.ref a_WRITE), .val (.ref a_WRITE)] [(.int (1 : Int32))])) _
    refine XS.ifNo X2.here hx rfl (hb hby d2_11) rfl (by decide) ?_
    show Steps p.tables e below (T2.setTop (mkF m 14 #[.val (.ref a_WRITE), .val (.ref a_WRITE)] [])) _
    refine XS.aloadN X2.here hx rfl (hb hby d2_14) rfl rfl ?_
    show Steps p.tables e below (T2.setTop (mkF m 15 #[.val (.ref a_WRITE), .val (.ref a_WRITE)] [(.ref a_WRITE)])) _
    refine XS.aloadN X2.here hx rfl (hb hby d2_15) rfl rfl ?_
    show Steps p.tables e below (T2.setTop (mkF m 16 #[.val (.ref a_WRITE), .val (.ref a_WRITE)] [(.ref a_WRITE), (.ref a_WRITE)])) _
    refine Jvm.RoadKit.acmp (g := (mkF m 16 #[.val (.ref a_WRITE), .val (.ref a_WRITE)] [(.ref a_WRITE), (.ref a_WRITE)])) X2 hx rfl rfl rfl (pc0 := 16) (pc' := 19) (same := true) rfl (hb hby d2_16) rfl (decide_eq_true rfl) (by decide) (by decide) ?_
    show Steps p.tables e below (T2.setTop (mkF m 19 #[.val (.ref a_WRITE), .val (.ref a_WRITE)] [])) _
    refine XS.aloadN X2.here hx rfl (hb hby d2_19) rfl rfl ?_
    show Steps p.tables e below (T2.setTop (mkF m 20 #[.val (.ref a_WRITE), .val (.ref a_WRITE)] [(.ref a_WRITE)])) _
    refine st3 _ ?_
    show Steps p.tables e below (T3.setTop (mkF m 23 #[.val (.ref a_WRITE), .val (.ref a_WRITE)] [(.int (0 : Int32))])) _
    refine XS.ifNo X3.here hx rfl (hb hby d2_23) rfl (by decide) ?_
    show Steps p.tables e below (T3.setTop (mkF m 26 #[.val (.ref a_WRITE), .val (.ref a_WRITE)] [])) _
    refine XS.iconst X3.here hx rfl (hb hby d2_26) ?_
    show Steps p.tables e below (T3.setTop (mkF m 27 #[.val (.ref a_WRITE), .val (.ref a_WRITE)] [(.int (1 : Int32))])) _
    refine XS.goto X3.here hx rfl (pc0 := 27) (pc' := 31) rfl (hb hby d2_27) (by decide) (by decide) ?_
    show Steps p.tables e below (T3.setTop (mkF m 31 #[.val (.ref a_WRITE), .val (.ref a_WRITE)] [(.int (1 : Int32))])) _
    exact retN X3 hx (t := .boolean) Bd.returns (by simp) (hb hby d2_31) hr
  · show own_Q _ _ _ _ T3.heap _
    exact ⟨rfl, N0, e3⟩
set_option maxRecDepth 65536 in
set_option maxHeartbeats 40000000 in
theorem rm0_6 (l : Launch) (Z : State) (a0 : Array Value) (hw : ∀ d ∈ tables_1, d.before a0 Z = true) (ws : List Jvm.Cond) (p0 p1 : Int32) (a_READ a_COMMIT a_ABORT a_WRITE a_INCREMENT : Addr) (h0 : Heap) (n0 : Nat) (Z0 : n0 ≤ h0.size) (FF : Facts Z h0 a_READ a_COMMIT a_ABORT a_WRITE a_INCREMENT) (hk0 : ((p0 &&& (2147483647 : Int32)) % (5 : Int32)) = (1 : Int32)) (hk1 : ((p1 &&& (2147483647 : Int32)) % (5 : Int32)) = (1 : Int32)) :
    MetFree l x (head1 (Jvm.Cond.code x code maxLocals ret :: ws) room_1) (fun a U => a = #[(.int p0), (.int p1)] ∧ Z.Warmed39 U.vm ∧ U.heap = h0) (fun _ _ _ _ _ => True) (fun _ U o U' => ∃ v L, o = .returned v ∧ (v = some (.int (1 : Int32)) ∧ Fr n0 L) ∧ FrameEnd U o U' L room_1.cells room_1.slots) := by
  refine MetFree.of_bodySF (plainFor_of_name pn_0) hisR ?_
  intro p e s m args below meth c s₁ Bd hml0 hP hK
  obtain ⟨rfl, hZ, hh⟩ := hP
  have hx := Bd.exec
  have hby := Bd.bytes
  have hml : c.maxLocals = 8 := hml0
  have hown : s.vm.findClass "com/example/schedulock/schedulock/schedule/OperationKindConflictsWithPinLaw" = some m.cls := findClass_of_methodNamed Bd.named
  have X0 : Stand p l e room_1 s m #[(.int p0), (.int p1)] below meth c s₁ [] 0 0 := Stand.of_body Bd
  have e0 : s₁.heap = h0 := by rw [← hh, Bd.state]; rfl
  have N0 := Fr.nil n0
  have pre0 : ∀ t, Steps p.tables e below (s₁.setTop (mkF m 0 #[.val (.int p0), .val (.int p1), .unset, .unset, .unset, .unset, .unset, .unset] [])) t → Steps p.tables e below (s₁.setTop (entryFrame m #[(.int p0), (.int p1)] maxLocals)) t := fun t k => castTop (ef_0 m p0 p1) k
  obtain ⟨_, _, ⟨T1, L1, k1, n1⟩, -, X1, ⟨Lc1, hQ1, l1, y1, z1⟩, st1⟩ := Jvm.LawKit.callS X0 hx (y := (⟨"com/example/schedulock/schedulock/schedule/OperationKindConflictsWithPinLaw", "kind", "(I)Lcom/example/schedulock/schedulock/schedule/OperationKind;"⟩ : MethodName)) hown (mvT hZ (hw _ (List.mem_of_getElem? (i := 1) rfl))) (mvT hZ (hw _ (List.mem_of_getElem? (i := 2) rfl))) (mvT hZ (hw _ (List.mem_of_getElem? (i := 3) rfl))) (mvT hZ (hw _ (List.mem_of_getElem? (i := 4) rfl))) (by decide) (backOf (W := 0) (rm1_1 l Z a0 hw [] p0 p1 a_READ a_COMMIT a_ABORT a_WRITE a_INCREMENT h0 n0 (Nat.le_trans Z0 (Nat.le_refl _)) FF) hZ (hw _ (List.mem_of_getElem? (i := 4) rfl)) (hw _ (List.mem_of_getElem? (i := 3) rfl)) (by decide) (by decide)) (g := (mkF m 15 #[.val (.int p0), .val (.int p1), .val (.int (1 : Int32)), .val (.int (1 : Int32)), .unset, .unset, .unset, .unset] [(.int (1 : Int32))])) rfl (by rw [hml]; rfl) (argsL := [(.int (1 : Int32))]) (rest := []) (lenOf pd_0 rfl) rfl (by show 2 * 0 + _ ≤ _; exact Nat.le_of_eq rfl) (hb hby at_15) (fun _ _ => ⟨rfl, e0, (by decide : 0 + 0 ≤ _), (by decide : 0 + 0 ≤ _)⟩)
  dsimp only [Pt.U, Pt.locs, Pt.cells, Pt.slots] at X1 l1 y1 z1 st1 hQ1
  subst l1 y1 z1
  obtain ⟨rfl, N1q, e1⟩ := hQ1
  have N1 := Fr.app N0 N1q
  obtain ⟨_, _, ⟨T2, L2, k2, n2⟩, -, X2, ⟨Lc2, hQ2, l2, y2, z2⟩, st2⟩ := Jvm.LawKit.callS X1 hx (y := (⟨"com/example/schedulock/schedulock/schedule/OperationKindConflictsWithPinLaw", "kind", "(I)Lcom/example/schedulock/schedulock/schedule/OperationKind;"⟩ : MethodName)) hown (mvT hZ (hw _ (List.mem_of_getElem? (i := 1) rfl))) (mvT hZ (hw _ (List.mem_of_getElem? (i := 2) rfl))) (mvT hZ (hw _ (List.mem_of_getElem? (i := 3) rfl))) (mvT hZ (hw _ (List.mem_of_getElem? (i := 4) rfl))) (by decide) (backOf (W := 0) (rm1_1 l Z a0 hw [] p0 p1 a_READ a_COMMIT a_ABORT a_WRITE a_INCREMENT h0 n0 (Nat.le_trans Z0 (Nat.le_refl _)) FF) hZ (hw _ (List.mem_of_getElem? (i := 4) rfl)) (hw _ (List.mem_of_getElem? (i := 3) rfl)) (by decide) (by decide)) (g := (mkF m 21 #[.val (.int p0), .val (.int p1), .val (.int (1 : Int32)), .val (.int (1 : Int32)), .val (.ref a_WRITE), .unset, .unset, .unset] [(.int (1 : Int32))])) rfl (by rw [hml]; rfl) (argsL := [(.int (1 : Int32))]) (rest := []) (lenOf pd_0 rfl) rfl (by show 2 * 0 + _ ≤ _; exact Nat.le_of_eq rfl) (hb hby at_21) (fun _ _ => ⟨rfl, e1, (by decide : 0 + 0 ≤ _), (by decide : 0 + 0 ≤ _)⟩)
  dsimp only [Pt.U, Pt.locs, Pt.cells, Pt.slots] at X2 l2 y2 z2 st2 hQ2
  subst l2 y2 z2
  obtain ⟨rfl, N2q, e2⟩ := hQ2
  have N2 := Fr.app N1 N2q
  obtain ⟨T3, h3, b3, k3, lc3, X3, e3, s_b3, z3, N3, FF3, V3, st3⟩ := seg_0 (l := l) (Z := Z) hw a_READ a_COMMIT a_ABORT a_WRITE a_INCREMENT p0 p1 (1 : Int32) (1 : Int32) a_WRITE a_WRITE X2 hx hZ hby hml hown e2 Z0 N2 FF
  obtain ⟨c4, r4, -, S4, -, H4, -⟩ := V3
  have i4 : ¬ ((6 : Int32) < 0 ∨ c4.slots.size ≤ ((6 : Int32)).toNatClampNeg) := inb_of S4 ⟨by decide, by decide⟩
  have y4 : c4.slots[((6 : Int32)).toNatClampNeg]? = some (.int (1 : Int32)) := H4 6 (by rw [S4]; decide)
  obtain ⟨cq5, kq5, q5a, q5b, q5c⟩ := isOf hZ e3 (fx_E_WRITE FF3)
  obtain ⟨_, _, ⟨T5, L5, k5, n5⟩, -, X5, ⟨Lc5, hQ5, l5, y5, z5⟩, st5⟩ := X3.virtualBack hx (y := (⟨"com/example/schedulock/schedulock/schedule/OperationKind", "conflictsWith", "(Lcom/example/schedulock/schedulock/schedule/OperationKind;)Z"⟩ : MethodName)) (z := (⟨"com/example/schedulock/schedulock/schedule/OperationKind", "conflictsWith", "(Lcom/example/schedulock/schedulock/schedule/OperationKind;)Z"⟩ : MethodName)) hown (mvT hZ (hw _ (List.mem_of_getElem? (i := 11) rfl))) (mvT hZ (hw _ (List.mem_of_getElem? (i := 12) rfl))) (notFace_of_selects (args := #[]) (mvT hZ (hw _ (List.mem_of_getElem? (i := 14) rfl)))) (mvT hZ (hw _ (List.mem_of_getElem? (i := 14) rfl))) (mvT hZ (hw _ (List.mem_of_getElem? (i := 13) rfl))) (by decide) (backOf (W := 0) (rm2_6 l Z a0 hw [] p0 p1 a_READ a_COMMIT a_ABORT a_WRITE a_INCREMENT h3 n0 (Nat.le_trans Z0 z3) FF3) hZ (hw _ (List.mem_of_getElem? (i := 15) rfl)) (hw _ (List.mem_of_getElem? (i := 6) rfl)) (by decide) (by decide)) q5a q5c (g := (mkF m 165 #[.val (.int p0), .val (.int p1), .val (.int (1 : Int32)), .val (.int (1 : Int32)), .val (.ref a_WRITE), .val (.ref a_WRITE), .val (.ref b3), .val (.int (1 : Int32))] [(.ref a_WRITE), (.ref a_WRITE)])) rfl (by rw [hml]; rfl) (Steps.refl _) (argsL := [(.ref a_WRITE)]) (rest := []) (lenOf pd_1 rfl) rfl (by show 2 * 0 + _ ≤ _; exact Nat.le_of_eq rfl) (hb hby at_165) (fun _ _ => ⟨rfl, e3, (by decide : 1 + 0 ≤ _), (by decide : 25 + 0 ≤ _)⟩)
  dsimp only [Pt.U, Pt.locs, Pt.cells, Pt.slots] at X5 l5 y5 z5 st5 hQ5
  subst l5 y5 z5
  obtain ⟨rfl, N5q, e5⟩ := hQ5
  have N5 := Fr.app N3 N5q
  obtain ⟨fs, hr, hrun, hended, hW, hsame⟩ := X5.leave (v := some (.int (1 : Int32))) (fun h => by rw [Bd.returns] at h; cases h)
  refine ⟨_, _, pre0 _ ?_, hrun, hended, _, _, rfl, ?_, ⟨_, rfl⟩, hW, hsame.mono (by decide) (by decide)⟩
  · show Steps p.tables e below (s₁.setTop (mkF m 0 #[.val (.int p0), .val (.int p1), .unset, .unset, .unset, .unset, .unset, .unset] [])) _
    refine XS.iloadN X0.here hx rfl (hb hby at_0) rfl ?_
    show Steps p.tables e below (s₁.setTop (mkF m 1 #[.val (.int p0), .val (.int p1), .unset, .unset, .unset, .unset, .unset, .unset] [(.int p0)])) _
    refine X0.ldcInt hx hown (mvT hZ (hw _ (List.mem_of_getElem? (i := 0) rfl))) (g := (mkF m 1 #[.val (.int p0), .val (.int p1), .unset, .unset, .unset, .unset, .unset, .unset] [(.int p0)])) rfl (hb hby at_1) _ ?_
    show Steps p.tables e below (s₁.setTop (mkF m 3 #[.val (.int p0), .val (.int p1), .unset, .unset, .unset, .unset, .unset, .unset] [(.int (2147483647 : Int32)), (.int p0)])) _
    refine XS.iand X0.here hx rfl (hb hby at_3) rfl ?_
    show Steps p.tables e below (s₁.setTop (mkF m 4 #[.val (.int p0), .val (.int p1), .unset, .unset, .unset, .unset, .unset, .unset] [(.int (p0 &&& (2147483647 : Int32)))])) _
    refine XS.iconst X0.here hx rfl (hb hby at_4) ?_
    show Steps p.tables e below (s₁.setTop (mkF m 5 #[.val (.int p0), .val (.int p1), .unset, .unset, .unset, .unset, .unset, .unset] [(.int (5 : Int32)), (.int (p0 &&& (2147483647 : Int32)))])) _
    refine iremM X0 hx rfl (hb hby at_5) rfl (by decide) ?_
    show Steps p.tables e below (s₁.setTop (mkF m 6 #[.val (.int p0), .val (.int p1), .unset, .unset, .unset, .unset, .unset, .unset] [(.int ((p0 &&& (2147483647 : Int32)) % (5 : Int32)))])) _
    rw [hk0]
    show Steps p.tables e below (s₁.setTop (mkF m 6 #[.val (.int p0), .val (.int p1), .unset, .unset, .unset, .unset, .unset, .unset] [(.int (1 : Int32))])) _
    refine XS.istoreN X0.here hx rfl (hb hby at_6) rfl (l' := #[.val (.int p0), .val (.int p1), .val (.int (1 : Int32)), .unset, .unset, .unset, .unset, .unset]) rfl ?_
    show Steps p.tables e below (s₁.setTop (mkF m 7 #[.val (.int p0), .val (.int p1), .val (.int (1 : Int32)), .unset, .unset, .unset, .unset, .unset] [])) _
    refine XS.iloadN X0.here hx rfl (hb hby at_7) rfl ?_
    show Steps p.tables e below (s₁.setTop (mkF m 8 #[.val (.int p0), .val (.int p1), .val (.int (1 : Int32)), .unset, .unset, .unset, .unset, .unset] [(.int p1)])) _
    refine X0.ldcInt hx hown (mvT hZ (hw _ (List.mem_of_getElem? (i := 0) rfl))) (g := (mkF m 8 #[.val (.int p0), .val (.int p1), .val (.int (1 : Int32)), .unset, .unset, .unset, .unset, .unset] [(.int p1)])) rfl (hb hby at_8) _ ?_
    show Steps p.tables e below (s₁.setTop (mkF m 10 #[.val (.int p0), .val (.int p1), .val (.int (1 : Int32)), .unset, .unset, .unset, .unset, .unset] [(.int (2147483647 : Int32)), (.int p1)])) _
    refine XS.iand X0.here hx rfl (hb hby at_10) rfl ?_
    show Steps p.tables e below (s₁.setTop (mkF m 11 #[.val (.int p0), .val (.int p1), .val (.int (1 : Int32)), .unset, .unset, .unset, .unset, .unset] [(.int (p1 &&& (2147483647 : Int32)))])) _
    refine XS.iconst X0.here hx rfl (hb hby at_11) ?_
    show Steps p.tables e below (s₁.setTop (mkF m 12 #[.val (.int p0), .val (.int p1), .val (.int (1 : Int32)), .unset, .unset, .unset, .unset, .unset] [(.int (5 : Int32)), (.int (p1 &&& (2147483647 : Int32)))])) _
    refine iremM X0 hx rfl (hb hby at_12) rfl (by decide) ?_
    show Steps p.tables e below (s₁.setTop (mkF m 13 #[.val (.int p0), .val (.int p1), .val (.int (1 : Int32)), .unset, .unset, .unset, .unset, .unset] [(.int ((p1 &&& (2147483647 : Int32)) % (5 : Int32)))])) _
    rw [hk1]
    show Steps p.tables e below (s₁.setTop (mkF m 13 #[.val (.int p0), .val (.int p1), .val (.int (1 : Int32)), .unset, .unset, .unset, .unset, .unset] [(.int (1 : Int32))])) _
    refine XS.istoreN X0.here hx rfl (hb hby at_13) rfl (l' := #[.val (.int p0), .val (.int p1), .val (.int (1 : Int32)), .val (.int (1 : Int32)), .unset, .unset, .unset, .unset]) rfl ?_
    show Steps p.tables e below (s₁.setTop (mkF m 14 #[.val (.int p0), .val (.int p1), .val (.int (1 : Int32)), .val (.int (1 : Int32)), .unset, .unset, .unset, .unset] [])) _
    refine XS.iloadN X0.here hx rfl (hb hby at_14) rfl ?_
    show Steps p.tables e below (s₁.setTop (mkF m 15 #[.val (.int p0), .val (.int p1), .val (.int (1 : Int32)), .val (.int (1 : Int32)), .unset, .unset, .unset, .unset] [(.int (1 : Int32))])) _
    refine st1 _ ?_
    show Steps p.tables e below (T1.setTop (mkF m 18 #[.val (.int p0), .val (.int p1), .val (.int (1 : Int32)), .val (.int (1 : Int32)), .unset, .unset, .unset, .unset] [(.ref a_WRITE)])) _
    refine XS.astore X1.here hx rfl (hb hby at_18) rfl rfl (l' := #[.val (.int p0), .val (.int p1), .val (.int (1 : Int32)), .val (.int (1 : Int32)), .val (.ref a_WRITE), .unset, .unset, .unset]) rfl ?_
    show Steps p.tables e below (T1.setTop (mkF m 20 #[.val (.int p0), .val (.int p1), .val (.int (1 : Int32)), .val (.int (1 : Int32)), .val (.ref a_WRITE), .unset, .unset, .unset] [])) _
    refine XS.iloadN X1.here hx rfl (hb hby at_20) rfl ?_
    show Steps p.tables e below (T1.setTop (mkF m 21 #[.val (.int p0), .val (.int p1), .val (.int (1 : Int32)), .val (.int (1 : Int32)), .val (.ref a_WRITE), .unset, .unset, .unset] [(.int (1 : Int32))])) _
    refine st2 _ ?_
    show Steps p.tables e below (T2.setTop (mkF m 24 #[.val (.int p0), .val (.int p1), .val (.int (1 : Int32)), .val (.int (1 : Int32)), .val (.ref a_WRITE), .unset, .unset, .unset] [(.ref a_WRITE)])) _
    refine XS.astore X2.here hx rfl (hb hby at_24) rfl rfl (l' := #[.val (.int p0), .val (.int p1), .val (.int (1 : Int32)), .val (.int (1 : Int32)), .val (.ref a_WRITE), .val (.ref a_WRITE), .unset, .unset]) rfl ?_
    show Steps p.tables e below (T2.setTop (mkF m 26 #[.val (.int p0), .val (.int p1), .val (.int (1 : Int32)), .val (.int (1 : Int32)), .val (.ref a_WRITE), .val (.ref a_WRITE), .unset, .unset] [])) _
    refine st3 _ ?_
    show Steps p.tables e below (T3.setTop (mkF m 151 #[.val (.int p0), .val (.int p1), .val (.int (1 : Int32)), .val (.int (1 : Int32)), .val (.ref a_WRITE), .val (.ref a_WRITE), .val (.ref b3), .unset] [])) _
    refine XS.aload X3.here hx rfl (hb hby at_151) rfl rfl ?_
    show Steps p.tables e below (T3.setTop (mkF m 153 #[.val (.int p0), .val (.int p1), .val (.int (1 : Int32)), .val (.int (1 : Int32)), .val (.ref a_WRITE), .val (.ref a_WRITE), .val (.ref b3), .unset] [(.ref b3)])) _
    refine XS.iloadN X3.here hx rfl (hb hby at_153) rfl ?_
    show Steps p.tables e below (T3.setTop (mkF m 154 #[.val (.int p0), .val (.int p1), .val (.int (1 : Int32)), .val (.int (1 : Int32)), .val (.ref a_WRITE), .val (.ref a_WRITE), .val (.ref b3), .unset] [(.int (1 : Int32)), (.ref b3)])) _
    refine XS.iconst X3.here hx rfl (hb hby at_154) ?_
    show Steps p.tables e below (T3.setTop (mkF m 155 #[.val (.int p0), .val (.int p1), .val (.int (1 : Int32)), .val (.int (1 : Int32)), .val (.ref a_WRITE), .val (.ref a_WRITE), .val (.ref b3), .unset] [(.int (5 : Int32)), (.int (1 : Int32)), (.ref b3)])) _
    refine XS.imul X3.here hx rfl (hb hby at_155) rfl ?_
    show Steps p.tables e below (T3.setTop (mkF m 156 #[.val (.int p0), .val (.int p1), .val (.int (1 : Int32)), .val (.int (1 : Int32)), .val (.ref a_WRITE), .val (.ref a_WRITE), .val (.ref b3), .unset] [(.int ((1 : Int32) * (5 : Int32))), (.ref b3)])) _
    rw [(by decide : ((1 : Int32) * (5 : Int32)) = (5 : Int32))]
    show Steps p.tables e below (T3.setTop (mkF m 156 #[.val (.int p0), .val (.int p1), .val (.int (1 : Int32)), .val (.int (1 : Int32)), .val (.ref a_WRITE), .val (.ref a_WRITE), .val (.ref b3), .unset] [(.int (5 : Int32)), (.ref b3)])) _
    refine XS.iloadN X3.here hx rfl (hb hby at_156) rfl ?_
    show Steps p.tables e below (T3.setTop (mkF m 157 #[.val (.int p0), .val (.int p1), .val (.int (1 : Int32)), .val (.int (1 : Int32)), .val (.ref a_WRITE), .val (.ref a_WRITE), .val (.ref b3), .unset] [(.int (1 : Int32)), (.int (5 : Int32)), (.ref b3)])) _
    refine XS.iadd X3.here hx rfl (hb hby at_157) rfl ?_
    show Steps p.tables e below (T3.setTop (mkF m 158 #[.val (.int p0), .val (.int p1), .val (.int (1 : Int32)), .val (.int (1 : Int32)), .val (.ref a_WRITE), .val (.ref a_WRITE), .val (.ref b3), .unset] [(.int ((5 : Int32) + (1 : Int32))), (.ref b3)])) _
    rw [(by decide : ((5 : Int32) + (1 : Int32)) = (6 : Int32))]
    show Steps p.tables e below (T3.setTop (mkF m 158 #[.val (.int p0), .val (.int p1), .val (.int (1 : Int32)), .val (.int (1 : Int32)), .val (.ref a_WRITE), .val (.ref a_WRITE), .val (.ref b3), .unset] [(.int (6 : Int32)), (.ref b3)])) _
    refine X3.baloadBooleans hx (j := (6 : Int32)) (v := (.int (1 : Int32))) (by rw [e3]; exact r4.1) (State.isArrayOf_alike hZ.alike r4.2.1) r4.2.2 i4 y4 (g := (mkF m 158 #[.val (.int p0), .val (.int p1), .val (.int (1 : Int32)), .val (.int (1 : Int32)), .val (.ref a_WRITE), .val (.ref a_WRITE), .val (.ref b3), .unset] [(.int (6 : Int32)), (.ref b3)])) rfl rfl (hb hby at_158) _ ?_
    show Steps p.tables e below (T3.setTop (mkF m 159 #[.val (.int p0), .val (.int p1), .val (.int (1 : Int32)), .val (.int (1 : Int32)), .val (.ref a_WRITE), .val (.ref a_WRITE), .val (.ref b3), .unset] [(.int (1 : Int32))])) _
    refine XS.istore X3.here hx rfl (hb hby at_159) rfl (l' := #[.val (.int p0), .val (.int p1), .val (.int (1 : Int32)), .val (.int (1 : Int32)), .val (.ref a_WRITE), .val (.ref a_WRITE), .val (.ref b3), .val (.int (1 : Int32))]) rfl ?_
    show Steps p.tables e below (T3.setTop (mkF m 161 #[.val (.int p0), .val (.int p1), .val (.int (1 : Int32)), .val (.int (1 : Int32)), .val (.ref a_WRITE), .val (.ref a_WRITE), .val (.ref b3), .val (.int (1 : Int32))] [])) _
    refine XS.aload X3.here hx rfl (hb hby at_161) rfl rfl ?_
    show Steps p.tables e below (T3.setTop (mkF m 163 #[.val (.int p0), .val (.int p1), .val (.int (1 : Int32)), .val (.int (1 : Int32)), .val (.ref a_WRITE), .val (.ref a_WRITE), .val (.ref b3), .val (.int (1 : Int32))] [(.ref a_WRITE)])) _
    refine XS.aload X3.here hx rfl (hb hby at_163) rfl rfl ?_
    show Steps p.tables e below (T3.setTop (mkF m 165 #[.val (.int p0), .val (.int p1), .val (.int (1 : Int32)), .val (.int (1 : Int32)), .val (.ref a_WRITE), .val (.ref a_WRITE), .val (.ref b3), .val (.int (1 : Int32))] [(.ref a_WRITE), (.ref a_WRITE)])) _
    refine st5.trans ?_
    show Steps p.tables e below (T5.setTop (mkF m 168 #[.val (.int p0), .val (.int p1), .val (.int (1 : Int32)), .val (.int (1 : Int32)), .val (.ref a_WRITE), .val (.ref a_WRITE), .val (.ref b3), .val (.int (1 : Int32))] [(.int (1 : Int32))])) _
    refine XS.iload X5.here hx rfl (hb hby at_168) rfl ?_
    show Steps p.tables e below (T5.setTop (mkF m 170 #[.val (.int p0), .val (.int p1), .val (.int (1 : Int32)), .val (.int (1 : Int32)), .val (.ref a_WRITE), .val (.ref a_WRITE), .val (.ref b3), .val (.int (1 : Int32))] [(.int (1 : Int32)), (.int (1 : Int32))])) _
    refine XS.icmpNo X5.here hx rfl (hb hby at_170) rfl (by decide) ?_
    show Steps p.tables e below (T5.setTop (mkF m 173 #[.val (.int p0), .val (.int p1), .val (.int (1 : Int32)), .val (.int (1 : Int32)), .val (.ref a_WRITE), .val (.ref a_WRITE), .val (.ref b3), .val (.int (1 : Int32))] [])) _
    refine XS.iconst X5.here hx rfl (hb hby at_173) ?_
    show Steps p.tables e below (T5.setTop (mkF m 174 #[.val (.int p0), .val (.int p1), .val (.int (1 : Int32)), .val (.int (1 : Int32)), .val (.ref a_WRITE), .val (.ref a_WRITE), .val (.ref b3), .val (.int (1 : Int32))] [(.int (1 : Int32))])) _
    refine XS.goto X5.here hx rfl (pc0 := 174) (pc' := 178) rfl (hb hby at_174) (by decide) (by decide) ?_
    show Steps p.tables e below (T5.setTop (mkF m 178 #[.val (.int p0), .val (.int p1), .val (.int (1 : Int32)), .val (.int (1 : Int32)), .val (.ref a_WRITE), .val (.ref a_WRITE), .val (.ref b3), .val (.int (1 : Int32))] [(.int (1 : Int32))])) _
    exact retN X5 hx (t := .boolean) Bd.returns (by simp) (hb hby at_178) hr
  · exact ⟨rfl, N5⟩
set_option maxRecDepth 65536 in
set_option maxHeartbeats 40000000 in
theorem rm2_7 (l : Launch) (Z : State) (a0 : Array Value) (hw : ∀ d ∈ tables_1, d.before a0 Z = true) (ws : List Jvm.Cond) (p0 p1 : Int32) (a_READ a_COMMIT a_ABORT a_WRITE a_INCREMENT : Addr) (h0 : Heap) (n0 : Nat) (Z0 : n0 ≤ h0.size) (FF : Facts Z h0 a_READ a_COMMIT a_ABORT a_WRITE a_INCREMENT) :
    MetFree l (⟨"com/example/schedulock/schedulock/schedule/OperationKind", "conflictsWith", "(Lcom/example/schedulock/schedulock/schedule/OperationKind;)Z"⟩ : MethodName) (head1 (Jvm.Cond.code (⟨"com/example/schedulock/schedulock/schedule/OperationKind", "conflictsWith", "(Lcom/example/schedulock/schedulock/schedule/OperationKind;)Z"⟩ : MethodName) prog_31_method_5_code 2 (some .boolean) :: ws) ({ frames := 0, cells := 0, slots := 0, locals := 0 } : Room)) (fun a U => a = #[(.ref a_WRITE), (.ref a_INCREMENT)] ∧ Z.Warmed39 U.vm ∧ U.heap = h0) (fun _ _ _ _ _ => True) (fun _ U o U' => ∃ v L, o = .returned v ∧ own_Q (.int (1 : Int32)) h0 n0 v U'.heap L ∧ FrameEnd U o U' L ({ frames := 0, cells := 0, slots := 0, locals := 0 } : Room).cells ({ frames := 0, cells := 0, slots := 0, locals := 0 } : Room).slots) := by
  refine MetFree.of_bodySF (plainFor_of_name pn_2) hisR ?_
  intro p e s m args below meth c s₁ Bd hml0 hP hK
  obtain ⟨rfl, hZ, hh⟩ := hP
  have hx := Bd.exec
  have hby := Bd.bytes
  have hml : c.maxLocals = 2 := hml0
  have hown : s.vm.findClass "com/example/schedulock/schedulock/schedule/OperationKind" = some m.cls := findClass_of_methodNamed Bd.named
  have X0 : Stand p l e ({ frames := 0, cells := 0, slots := 0, locals := 0 } : Room) s m #[(.ref a_WRITE), (.ref a_INCREMENT)] below meth c s₁ [] 0 0 := Stand.of_body Bd
  have e0 : s₁.heap = h0 := by rw [← hh, Bd.state]; rfl
  have N0 := Fr.nil n0
  have pre0 : ∀ t, Steps p.tables e below (s₁.setTop (mkF m 0 #[.val (.ref a_WRITE), .val (.ref a_INCREMENT)] [])) t → Steps p.tables e below (s₁.setTop (entryFrame m #[(.ref a_WRITE), (.ref a_INCREMENT)] 2)) t := fun t k => castTop (ef_2 m a_WRITE a_INCREMENT) k
  obtain ⟨T1, X1, e1, st1⟩ := getF X0 hx hZ hown (host := "") (Or.inl (hw _ (List.mem_of_getElem? (i := 16) rfl))) Via.refl e0 (fx_F_WRITE_takesItem FF) (g := (mkF m 1 #[.val (.ref a_WRITE), .val (.ref a_INCREMENT)] [(.ref a_WRITE)])) rfl rfl (hb hby d2_1)
  obtain ⟨T2, X2, e2, st2⟩ := getF X1 hx hZ hown (host := "") (Or.inl (hw _ (List.mem_of_getElem? (i := 16) rfl))) Via.refl e1 (fx_F_INCREMENT_takesItem FF) (g := (mkF m 8 #[.val (.ref a_WRITE), .val (.ref a_INCREMENT)] [(.ref a_INCREMENT)])) rfl rfl (hb hby d2_8)
  obtain ⟨fs, hr, hrun, hended, hW, hsame⟩ := X2.leave (v := some (.int (1 : Int32))) (fun h => by rw [Bd.returns] at h; cases h)
  refine ⟨_, _, pre0 _ ?_, hrun, hended, _, _, rfl, ?_, ⟨_, rfl⟩, hW, hsame.mono (by decide) (by decide)⟩
  · show Steps p.tables e below (s₁.setTop (mkF m 0 #[.val (.ref a_WRITE), .val (.ref a_INCREMENT)] [])) _
    refine XS.aloadN X0.here hx rfl (hb hby d2_0) rfl rfl ?_
    show Steps p.tables e below (s₁.setTop (mkF m 1 #[.val (.ref a_WRITE), .val (.ref a_INCREMENT)] [(.ref a_WRITE)])) _
    refine st1 _ ?_
    show Steps p.tables e below (T1.setTop (mkF m 4 #[.val (.ref a_WRITE), .val (.ref a_INCREMENT)] [(.int (1 : Int32))])) _
    refine XS.ifNo X1.here hx rfl (hb hby d2_4) rfl (by decide) ?_
    show Steps p.tables e below (T1.setTop (mkF m 7 #[.val (.ref a_WRITE), .val (.ref a_INCREMENT)] [])) _
    refine XS.aloadN X1.here hx rfl (hb hby d2_7) rfl rfl ?_
    show Steps p.tables e below (T1.setTop (mkF m 8 #[.val (.ref a_WRITE), .val (.ref a_INCREMENT)] [(.ref a_INCREMENT)])) _
    refine st2 _ ?_
    show Steps p.tables e below (T2.setTop (mkF m 11 #[.val (.ref a_WRITE), .val (.ref a_INCREMENT)] [(.int (1 : Int32))])) _
    refine XS.ifNo X2.here hx rfl (hb hby d2_11) rfl (by decide) ?_
    show Steps p.tables e below (T2.setTop (mkF m 14 #[.val (.ref a_WRITE), .val (.ref a_INCREMENT)] [])) _
    refine XS.aloadN X2.here hx rfl (hb hby d2_14) rfl rfl ?_
    show Steps p.tables e below (T2.setTop (mkF m 15 #[.val (.ref a_WRITE), .val (.ref a_INCREMENT)] [(.ref a_WRITE)])) _
    refine XS.aloadN X2.here hx rfl (hb hby d2_15) rfl rfl ?_
    show Steps p.tables e below (T2.setTop (mkF m 16 #[.val (.ref a_WRITE), .val (.ref a_INCREMENT)] [(.ref a_INCREMENT), (.ref a_WRITE)])) _
    refine Jvm.RoadKit.acmp (g := (mkF m 16 #[.val (.ref a_WRITE), .val (.ref a_INCREMENT)] [(.ref a_INCREMENT), (.ref a_WRITE)])) X2 hx rfl rfl rfl (pc0 := 16) (pc' := 26) (same := false) rfl (hb hby d2_16) rfl (decide_eq_false fun q => Fld.ne (fx_F_WRITE_commutesWithItself FF) (fx_F_INCREMENT_commutesWithItself FF) (by decide) (Value.ref.inj q)) (by decide) (by decide) ?_
    show Steps p.tables e below (T2.setTop (mkF m 26 #[.val (.ref a_WRITE), .val (.ref a_INCREMENT)] [])) _
    refine XS.iconst X2.here hx rfl (hb hby d2_26) ?_
    show Steps p.tables e below (T2.setTop (mkF m 27 #[.val (.ref a_WRITE), .val (.ref a_INCREMENT)] [(.int (1 : Int32))])) _
    refine XS.goto X2.here hx rfl (pc0 := 27) (pc' := 31) rfl (hb hby d2_27) (by decide) (by decide) ?_
    show Steps p.tables e below (T2.setTop (mkF m 31 #[.val (.ref a_WRITE), .val (.ref a_INCREMENT)] [(.int (1 : Int32))])) _
    exact retN X2 hx (t := .boolean) Bd.returns (by simp) (hb hby d2_31) hr
  · show own_Q _ _ _ _ T2.heap _
    exact ⟨rfl, N0, e2⟩
set_option maxRecDepth 65536 in
set_option maxHeartbeats 40000000 in
theorem rm0_7 (l : Launch) (Z : State) (a0 : Array Value) (hw : ∀ d ∈ tables_1, d.before a0 Z = true) (ws : List Jvm.Cond) (p0 p1 : Int32) (a_READ a_COMMIT a_ABORT a_WRITE a_INCREMENT : Addr) (h0 : Heap) (n0 : Nat) (Z0 : n0 ≤ h0.size) (FF : Facts Z h0 a_READ a_COMMIT a_ABORT a_WRITE a_INCREMENT) (hk0 : ((p0 &&& (2147483647 : Int32)) % (5 : Int32)) = (1 : Int32)) (hk1 : ((p1 &&& (2147483647 : Int32)) % (5 : Int32)) = (2 : Int32)) :
    MetFree l x (head1 (Jvm.Cond.code x code maxLocals ret :: ws) room_1) (fun a U => a = #[(.int p0), (.int p1)] ∧ Z.Warmed39 U.vm ∧ U.heap = h0) (fun _ _ _ _ _ => True) (fun _ U o U' => ∃ v L, o = .returned v ∧ (v = some (.int (1 : Int32)) ∧ Fr n0 L) ∧ FrameEnd U o U' L room_1.cells room_1.slots) := by
  refine MetFree.of_bodySF (plainFor_of_name pn_0) hisR ?_
  intro p e s m args below meth c s₁ Bd hml0 hP hK
  obtain ⟨rfl, hZ, hh⟩ := hP
  have hx := Bd.exec
  have hby := Bd.bytes
  have hml : c.maxLocals = 8 := hml0
  have hown : s.vm.findClass "com/example/schedulock/schedulock/schedule/OperationKindConflictsWithPinLaw" = some m.cls := findClass_of_methodNamed Bd.named
  have X0 : Stand p l e room_1 s m #[(.int p0), (.int p1)] below meth c s₁ [] 0 0 := Stand.of_body Bd
  have e0 : s₁.heap = h0 := by rw [← hh, Bd.state]; rfl
  have N0 := Fr.nil n0
  have pre0 : ∀ t, Steps p.tables e below (s₁.setTop (mkF m 0 #[.val (.int p0), .val (.int p1), .unset, .unset, .unset, .unset, .unset, .unset] [])) t → Steps p.tables e below (s₁.setTop (entryFrame m #[(.int p0), (.int p1)] maxLocals)) t := fun t k => castTop (ef_0 m p0 p1) k
  obtain ⟨_, _, ⟨T1, L1, k1, n1⟩, -, X1, ⟨Lc1, hQ1, l1, y1, z1⟩, st1⟩ := Jvm.LawKit.callS X0 hx (y := (⟨"com/example/schedulock/schedulock/schedule/OperationKindConflictsWithPinLaw", "kind", "(I)Lcom/example/schedulock/schedulock/schedule/OperationKind;"⟩ : MethodName)) hown (mvT hZ (hw _ (List.mem_of_getElem? (i := 1) rfl))) (mvT hZ (hw _ (List.mem_of_getElem? (i := 2) rfl))) (mvT hZ (hw _ (List.mem_of_getElem? (i := 3) rfl))) (mvT hZ (hw _ (List.mem_of_getElem? (i := 4) rfl))) (by decide) (backOf (W := 0) (rm1_1 l Z a0 hw [] p0 p1 a_READ a_COMMIT a_ABORT a_WRITE a_INCREMENT h0 n0 (Nat.le_trans Z0 (Nat.le_refl _)) FF) hZ (hw _ (List.mem_of_getElem? (i := 4) rfl)) (hw _ (List.mem_of_getElem? (i := 3) rfl)) (by decide) (by decide)) (g := (mkF m 15 #[.val (.int p0), .val (.int p1), .val (.int (1 : Int32)), .val (.int (2 : Int32)), .unset, .unset, .unset, .unset] [(.int (1 : Int32))])) rfl (by rw [hml]; rfl) (argsL := [(.int (1 : Int32))]) (rest := []) (lenOf pd_0 rfl) rfl (by show 2 * 0 + _ ≤ _; exact Nat.le_of_eq rfl) (hb hby at_15) (fun _ _ => ⟨rfl, e0, (by decide : 0 + 0 ≤ _), (by decide : 0 + 0 ≤ _)⟩)
  dsimp only [Pt.U, Pt.locs, Pt.cells, Pt.slots] at X1 l1 y1 z1 st1 hQ1
  subst l1 y1 z1
  obtain ⟨rfl, N1q, e1⟩ := hQ1
  have N1 := Fr.app N0 N1q
  obtain ⟨_, _, ⟨T2, L2, k2, n2⟩, -, X2, ⟨Lc2, hQ2, l2, y2, z2⟩, st2⟩ := Jvm.LawKit.callS X1 hx (y := (⟨"com/example/schedulock/schedulock/schedule/OperationKindConflictsWithPinLaw", "kind", "(I)Lcom/example/schedulock/schedulock/schedule/OperationKind;"⟩ : MethodName)) hown (mvT hZ (hw _ (List.mem_of_getElem? (i := 1) rfl))) (mvT hZ (hw _ (List.mem_of_getElem? (i := 2) rfl))) (mvT hZ (hw _ (List.mem_of_getElem? (i := 3) rfl))) (mvT hZ (hw _ (List.mem_of_getElem? (i := 4) rfl))) (by decide) (backOf (W := 0) (rm1_2 l Z a0 hw [] p0 p1 a_READ a_COMMIT a_ABORT a_WRITE a_INCREMENT h0 n0 (Nat.le_trans Z0 (Nat.le_refl _)) FF) hZ (hw _ (List.mem_of_getElem? (i := 4) rfl)) (hw _ (List.mem_of_getElem? (i := 3) rfl)) (by decide) (by decide)) (g := (mkF m 21 #[.val (.int p0), .val (.int p1), .val (.int (1 : Int32)), .val (.int (2 : Int32)), .val (.ref a_WRITE), .unset, .unset, .unset] [(.int (2 : Int32))])) rfl (by rw [hml]; rfl) (argsL := [(.int (2 : Int32))]) (rest := []) (lenOf pd_0 rfl) rfl (by show 2 * 0 + _ ≤ _; exact Nat.le_of_eq rfl) (hb hby at_21) (fun _ _ => ⟨rfl, e1, (by decide : 0 + 0 ≤ _), (by decide : 0 + 0 ≤ _)⟩)
  dsimp only [Pt.U, Pt.locs, Pt.cells, Pt.slots] at X2 l2 y2 z2 st2 hQ2
  subst l2 y2 z2
  obtain ⟨rfl, N2q, e2⟩ := hQ2
  have N2 := Fr.app N1 N2q
  obtain ⟨T3, h3, b3, k3, lc3, X3, e3, s_b3, z3, N3, FF3, V3, st3⟩ := seg_0 (l := l) (Z := Z) hw a_READ a_COMMIT a_ABORT a_WRITE a_INCREMENT p0 p1 (1 : Int32) (2 : Int32) a_WRITE a_INCREMENT X2 hx hZ hby hml hown e2 Z0 N2 FF
  obtain ⟨c4, r4, -, S4, -, H4, -⟩ := V3
  have i4 : ¬ ((7 : Int32) < 0 ∨ c4.slots.size ≤ ((7 : Int32)).toNatClampNeg) := inb_of S4 ⟨by decide, by decide⟩
  have y4 : c4.slots[((7 : Int32)).toNatClampNeg]? = some (.int (1 : Int32)) := H4 7 (by rw [S4]; decide)
  obtain ⟨cq5, kq5, q5a, q5b, q5c⟩ := isOf hZ e3 (fx_E_WRITE FF3)
  obtain ⟨_, _, ⟨T5, L5, k5, n5⟩, -, X5, ⟨Lc5, hQ5, l5, y5, z5⟩, st5⟩ := X3.virtualBack hx (y := (⟨"com/example/schedulock/schedulock/schedule/OperationKind", "conflictsWith", "(Lcom/example/schedulock/schedulock/schedule/OperationKind;)Z"⟩ : MethodName)) (z := (⟨"com/example/schedulock/schedulock/schedule/OperationKind", "conflictsWith", "(Lcom/example/schedulock/schedulock/schedule/OperationKind;)Z"⟩ : MethodName)) hown (mvT hZ (hw _ (List.mem_of_getElem? (i := 11) rfl))) (mvT hZ (hw _ (List.mem_of_getElem? (i := 12) rfl))) (notFace_of_selects (args := #[]) (mvT hZ (hw _ (List.mem_of_getElem? (i := 14) rfl)))) (mvT hZ (hw _ (List.mem_of_getElem? (i := 14) rfl))) (mvT hZ (hw _ (List.mem_of_getElem? (i := 13) rfl))) (by decide) (backOf (W := 0) (rm2_7 l Z a0 hw [] p0 p1 a_READ a_COMMIT a_ABORT a_WRITE a_INCREMENT h3 n0 (Nat.le_trans Z0 z3) FF3) hZ (hw _ (List.mem_of_getElem? (i := 15) rfl)) (hw _ (List.mem_of_getElem? (i := 6) rfl)) (by decide) (by decide)) q5a q5c (g := (mkF m 165 #[.val (.int p0), .val (.int p1), .val (.int (1 : Int32)), .val (.int (2 : Int32)), .val (.ref a_WRITE), .val (.ref a_INCREMENT), .val (.ref b3), .val (.int (1 : Int32))] [(.ref a_INCREMENT), (.ref a_WRITE)])) rfl (by rw [hml]; rfl) (Steps.refl _) (argsL := [(.ref a_INCREMENT)]) (rest := []) (lenOf pd_1 rfl) rfl (by show 2 * 0 + _ ≤ _; exact Nat.le_of_eq rfl) (hb hby at_165) (fun _ _ => ⟨rfl, e3, (by decide : 1 + 0 ≤ _), (by decide : 25 + 0 ≤ _)⟩)
  dsimp only [Pt.U, Pt.locs, Pt.cells, Pt.slots] at X5 l5 y5 z5 st5 hQ5
  subst l5 y5 z5
  obtain ⟨rfl, N5q, e5⟩ := hQ5
  have N5 := Fr.app N3 N5q
  obtain ⟨fs, hr, hrun, hended, hW, hsame⟩ := X5.leave (v := some (.int (1 : Int32))) (fun h => by rw [Bd.returns] at h; cases h)
  refine ⟨_, _, pre0 _ ?_, hrun, hended, _, _, rfl, ?_, ⟨_, rfl⟩, hW, hsame.mono (by decide) (by decide)⟩
  · show Steps p.tables e below (s₁.setTop (mkF m 0 #[.val (.int p0), .val (.int p1), .unset, .unset, .unset, .unset, .unset, .unset] [])) _
    refine XS.iloadN X0.here hx rfl (hb hby at_0) rfl ?_
    show Steps p.tables e below (s₁.setTop (mkF m 1 #[.val (.int p0), .val (.int p1), .unset, .unset, .unset, .unset, .unset, .unset] [(.int p0)])) _
    refine X0.ldcInt hx hown (mvT hZ (hw _ (List.mem_of_getElem? (i := 0) rfl))) (g := (mkF m 1 #[.val (.int p0), .val (.int p1), .unset, .unset, .unset, .unset, .unset, .unset] [(.int p0)])) rfl (hb hby at_1) _ ?_
    show Steps p.tables e below (s₁.setTop (mkF m 3 #[.val (.int p0), .val (.int p1), .unset, .unset, .unset, .unset, .unset, .unset] [(.int (2147483647 : Int32)), (.int p0)])) _
    refine XS.iand X0.here hx rfl (hb hby at_3) rfl ?_
    show Steps p.tables e below (s₁.setTop (mkF m 4 #[.val (.int p0), .val (.int p1), .unset, .unset, .unset, .unset, .unset, .unset] [(.int (p0 &&& (2147483647 : Int32)))])) _
    refine XS.iconst X0.here hx rfl (hb hby at_4) ?_
    show Steps p.tables e below (s₁.setTop (mkF m 5 #[.val (.int p0), .val (.int p1), .unset, .unset, .unset, .unset, .unset, .unset] [(.int (5 : Int32)), (.int (p0 &&& (2147483647 : Int32)))])) _
    refine iremM X0 hx rfl (hb hby at_5) rfl (by decide) ?_
    show Steps p.tables e below (s₁.setTop (mkF m 6 #[.val (.int p0), .val (.int p1), .unset, .unset, .unset, .unset, .unset, .unset] [(.int ((p0 &&& (2147483647 : Int32)) % (5 : Int32)))])) _
    rw [hk0]
    show Steps p.tables e below (s₁.setTop (mkF m 6 #[.val (.int p0), .val (.int p1), .unset, .unset, .unset, .unset, .unset, .unset] [(.int (1 : Int32))])) _
    refine XS.istoreN X0.here hx rfl (hb hby at_6) rfl (l' := #[.val (.int p0), .val (.int p1), .val (.int (1 : Int32)), .unset, .unset, .unset, .unset, .unset]) rfl ?_
    show Steps p.tables e below (s₁.setTop (mkF m 7 #[.val (.int p0), .val (.int p1), .val (.int (1 : Int32)), .unset, .unset, .unset, .unset, .unset] [])) _
    refine XS.iloadN X0.here hx rfl (hb hby at_7) rfl ?_
    show Steps p.tables e below (s₁.setTop (mkF m 8 #[.val (.int p0), .val (.int p1), .val (.int (1 : Int32)), .unset, .unset, .unset, .unset, .unset] [(.int p1)])) _
    refine X0.ldcInt hx hown (mvT hZ (hw _ (List.mem_of_getElem? (i := 0) rfl))) (g := (mkF m 8 #[.val (.int p0), .val (.int p1), .val (.int (1 : Int32)), .unset, .unset, .unset, .unset, .unset] [(.int p1)])) rfl (hb hby at_8) _ ?_
    show Steps p.tables e below (s₁.setTop (mkF m 10 #[.val (.int p0), .val (.int p1), .val (.int (1 : Int32)), .unset, .unset, .unset, .unset, .unset] [(.int (2147483647 : Int32)), (.int p1)])) _
    refine XS.iand X0.here hx rfl (hb hby at_10) rfl ?_
    show Steps p.tables e below (s₁.setTop (mkF m 11 #[.val (.int p0), .val (.int p1), .val (.int (1 : Int32)), .unset, .unset, .unset, .unset, .unset] [(.int (p1 &&& (2147483647 : Int32)))])) _
    refine XS.iconst X0.here hx rfl (hb hby at_11) ?_
    show Steps p.tables e below (s₁.setTop (mkF m 12 #[.val (.int p0), .val (.int p1), .val (.int (1 : Int32)), .unset, .unset, .unset, .unset, .unset] [(.int (5 : Int32)), (.int (p1 &&& (2147483647 : Int32)))])) _
    refine iremM X0 hx rfl (hb hby at_12) rfl (by decide) ?_
    show Steps p.tables e below (s₁.setTop (mkF m 13 #[.val (.int p0), .val (.int p1), .val (.int (1 : Int32)), .unset, .unset, .unset, .unset, .unset] [(.int ((p1 &&& (2147483647 : Int32)) % (5 : Int32)))])) _
    rw [hk1]
    show Steps p.tables e below (s₁.setTop (mkF m 13 #[.val (.int p0), .val (.int p1), .val (.int (1 : Int32)), .unset, .unset, .unset, .unset, .unset] [(.int (2 : Int32))])) _
    refine XS.istoreN X0.here hx rfl (hb hby at_13) rfl (l' := #[.val (.int p0), .val (.int p1), .val (.int (1 : Int32)), .val (.int (2 : Int32)), .unset, .unset, .unset, .unset]) rfl ?_
    show Steps p.tables e below (s₁.setTop (mkF m 14 #[.val (.int p0), .val (.int p1), .val (.int (1 : Int32)), .val (.int (2 : Int32)), .unset, .unset, .unset, .unset] [])) _
    refine XS.iloadN X0.here hx rfl (hb hby at_14) rfl ?_
    show Steps p.tables e below (s₁.setTop (mkF m 15 #[.val (.int p0), .val (.int p1), .val (.int (1 : Int32)), .val (.int (2 : Int32)), .unset, .unset, .unset, .unset] [(.int (1 : Int32))])) _
    refine st1 _ ?_
    show Steps p.tables e below (T1.setTop (mkF m 18 #[.val (.int p0), .val (.int p1), .val (.int (1 : Int32)), .val (.int (2 : Int32)), .unset, .unset, .unset, .unset] [(.ref a_WRITE)])) _
    refine XS.astore X1.here hx rfl (hb hby at_18) rfl rfl (l' := #[.val (.int p0), .val (.int p1), .val (.int (1 : Int32)), .val (.int (2 : Int32)), .val (.ref a_WRITE), .unset, .unset, .unset]) rfl ?_
    show Steps p.tables e below (T1.setTop (mkF m 20 #[.val (.int p0), .val (.int p1), .val (.int (1 : Int32)), .val (.int (2 : Int32)), .val (.ref a_WRITE), .unset, .unset, .unset] [])) _
    refine XS.iloadN X1.here hx rfl (hb hby at_20) rfl ?_
    show Steps p.tables e below (T1.setTop (mkF m 21 #[.val (.int p0), .val (.int p1), .val (.int (1 : Int32)), .val (.int (2 : Int32)), .val (.ref a_WRITE), .unset, .unset, .unset] [(.int (2 : Int32))])) _
    refine st2 _ ?_
    show Steps p.tables e below (T2.setTop (mkF m 24 #[.val (.int p0), .val (.int p1), .val (.int (1 : Int32)), .val (.int (2 : Int32)), .val (.ref a_WRITE), .unset, .unset, .unset] [(.ref a_INCREMENT)])) _
    refine XS.astore X2.here hx rfl (hb hby at_24) rfl rfl (l' := #[.val (.int p0), .val (.int p1), .val (.int (1 : Int32)), .val (.int (2 : Int32)), .val (.ref a_WRITE), .val (.ref a_INCREMENT), .unset, .unset]) rfl ?_
    show Steps p.tables e below (T2.setTop (mkF m 26 #[.val (.int p0), .val (.int p1), .val (.int (1 : Int32)), .val (.int (2 : Int32)), .val (.ref a_WRITE), .val (.ref a_INCREMENT), .unset, .unset] [])) _
    refine st3 _ ?_
    show Steps p.tables e below (T3.setTop (mkF m 151 #[.val (.int p0), .val (.int p1), .val (.int (1 : Int32)), .val (.int (2 : Int32)), .val (.ref a_WRITE), .val (.ref a_INCREMENT), .val (.ref b3), .unset] [])) _
    refine XS.aload X3.here hx rfl (hb hby at_151) rfl rfl ?_
    show Steps p.tables e below (T3.setTop (mkF m 153 #[.val (.int p0), .val (.int p1), .val (.int (1 : Int32)), .val (.int (2 : Int32)), .val (.ref a_WRITE), .val (.ref a_INCREMENT), .val (.ref b3), .unset] [(.ref b3)])) _
    refine XS.iloadN X3.here hx rfl (hb hby at_153) rfl ?_
    show Steps p.tables e below (T3.setTop (mkF m 154 #[.val (.int p0), .val (.int p1), .val (.int (1 : Int32)), .val (.int (2 : Int32)), .val (.ref a_WRITE), .val (.ref a_INCREMENT), .val (.ref b3), .unset] [(.int (1 : Int32)), (.ref b3)])) _
    refine XS.iconst X3.here hx rfl (hb hby at_154) ?_
    show Steps p.tables e below (T3.setTop (mkF m 155 #[.val (.int p0), .val (.int p1), .val (.int (1 : Int32)), .val (.int (2 : Int32)), .val (.ref a_WRITE), .val (.ref a_INCREMENT), .val (.ref b3), .unset] [(.int (5 : Int32)), (.int (1 : Int32)), (.ref b3)])) _
    refine XS.imul X3.here hx rfl (hb hby at_155) rfl ?_
    show Steps p.tables e below (T3.setTop (mkF m 156 #[.val (.int p0), .val (.int p1), .val (.int (1 : Int32)), .val (.int (2 : Int32)), .val (.ref a_WRITE), .val (.ref a_INCREMENT), .val (.ref b3), .unset] [(.int ((1 : Int32) * (5 : Int32))), (.ref b3)])) _
    rw [(by decide : ((1 : Int32) * (5 : Int32)) = (5 : Int32))]
    show Steps p.tables e below (T3.setTop (mkF m 156 #[.val (.int p0), .val (.int p1), .val (.int (1 : Int32)), .val (.int (2 : Int32)), .val (.ref a_WRITE), .val (.ref a_INCREMENT), .val (.ref b3), .unset] [(.int (5 : Int32)), (.ref b3)])) _
    refine XS.iloadN X3.here hx rfl (hb hby at_156) rfl ?_
    show Steps p.tables e below (T3.setTop (mkF m 157 #[.val (.int p0), .val (.int p1), .val (.int (1 : Int32)), .val (.int (2 : Int32)), .val (.ref a_WRITE), .val (.ref a_INCREMENT), .val (.ref b3), .unset] [(.int (2 : Int32)), (.int (5 : Int32)), (.ref b3)])) _
    refine XS.iadd X3.here hx rfl (hb hby at_157) rfl ?_
    show Steps p.tables e below (T3.setTop (mkF m 158 #[.val (.int p0), .val (.int p1), .val (.int (1 : Int32)), .val (.int (2 : Int32)), .val (.ref a_WRITE), .val (.ref a_INCREMENT), .val (.ref b3), .unset] [(.int ((5 : Int32) + (2 : Int32))), (.ref b3)])) _
    rw [(by decide : ((5 : Int32) + (2 : Int32)) = (7 : Int32))]
    show Steps p.tables e below (T3.setTop (mkF m 158 #[.val (.int p0), .val (.int p1), .val (.int (1 : Int32)), .val (.int (2 : Int32)), .val (.ref a_WRITE), .val (.ref a_INCREMENT), .val (.ref b3), .unset] [(.int (7 : Int32)), (.ref b3)])) _
    refine X3.baloadBooleans hx (j := (7 : Int32)) (v := (.int (1 : Int32))) (by rw [e3]; exact r4.1) (State.isArrayOf_alike hZ.alike r4.2.1) r4.2.2 i4 y4 (g := (mkF m 158 #[.val (.int p0), .val (.int p1), .val (.int (1 : Int32)), .val (.int (2 : Int32)), .val (.ref a_WRITE), .val (.ref a_INCREMENT), .val (.ref b3), .unset] [(.int (7 : Int32)), (.ref b3)])) rfl rfl (hb hby at_158) _ ?_
    show Steps p.tables e below (T3.setTop (mkF m 159 #[.val (.int p0), .val (.int p1), .val (.int (1 : Int32)), .val (.int (2 : Int32)), .val (.ref a_WRITE), .val (.ref a_INCREMENT), .val (.ref b3), .unset] [(.int (1 : Int32))])) _
    refine XS.istore X3.here hx rfl (hb hby at_159) rfl (l' := #[.val (.int p0), .val (.int p1), .val (.int (1 : Int32)), .val (.int (2 : Int32)), .val (.ref a_WRITE), .val (.ref a_INCREMENT), .val (.ref b3), .val (.int (1 : Int32))]) rfl ?_
    show Steps p.tables e below (T3.setTop (mkF m 161 #[.val (.int p0), .val (.int p1), .val (.int (1 : Int32)), .val (.int (2 : Int32)), .val (.ref a_WRITE), .val (.ref a_INCREMENT), .val (.ref b3), .val (.int (1 : Int32))] [])) _
    refine XS.aload X3.here hx rfl (hb hby at_161) rfl rfl ?_
    show Steps p.tables e below (T3.setTop (mkF m 163 #[.val (.int p0), .val (.int p1), .val (.int (1 : Int32)), .val (.int (2 : Int32)), .val (.ref a_WRITE), .val (.ref a_INCREMENT), .val (.ref b3), .val (.int (1 : Int32))] [(.ref a_WRITE)])) _
    refine XS.aload X3.here hx rfl (hb hby at_163) rfl rfl ?_
    show Steps p.tables e below (T3.setTop (mkF m 165 #[.val (.int p0), .val (.int p1), .val (.int (1 : Int32)), .val (.int (2 : Int32)), .val (.ref a_WRITE), .val (.ref a_INCREMENT), .val (.ref b3), .val (.int (1 : Int32))] [(.ref a_INCREMENT), (.ref a_WRITE)])) _
    refine st5.trans ?_
    show Steps p.tables e below (T5.setTop (mkF m 168 #[.val (.int p0), .val (.int p1), .val (.int (1 : Int32)), .val (.int (2 : Int32)), .val (.ref a_WRITE), .val (.ref a_INCREMENT), .val (.ref b3), .val (.int (1 : Int32))] [(.int (1 : Int32))])) _
    refine XS.iload X5.here hx rfl (hb hby at_168) rfl ?_
    show Steps p.tables e below (T5.setTop (mkF m 170 #[.val (.int p0), .val (.int p1), .val (.int (1 : Int32)), .val (.int (2 : Int32)), .val (.ref a_WRITE), .val (.ref a_INCREMENT), .val (.ref b3), .val (.int (1 : Int32))] [(.int (1 : Int32)), (.int (1 : Int32))])) _
    refine XS.icmpNo X5.here hx rfl (hb hby at_170) rfl (by decide) ?_
    show Steps p.tables e below (T5.setTop (mkF m 173 #[.val (.int p0), .val (.int p1), .val (.int (1 : Int32)), .val (.int (2 : Int32)), .val (.ref a_WRITE), .val (.ref a_INCREMENT), .val (.ref b3), .val (.int (1 : Int32))] [])) _
    refine XS.iconst X5.here hx rfl (hb hby at_173) ?_
    show Steps p.tables e below (T5.setTop (mkF m 174 #[.val (.int p0), .val (.int p1), .val (.int (1 : Int32)), .val (.int (2 : Int32)), .val (.ref a_WRITE), .val (.ref a_INCREMENT), .val (.ref b3), .val (.int (1 : Int32))] [(.int (1 : Int32))])) _
    refine XS.goto X5.here hx rfl (pc0 := 174) (pc' := 178) rfl (hb hby at_174) (by decide) (by decide) ?_
    show Steps p.tables e below (T5.setTop (mkF m 178 #[.val (.int p0), .val (.int p1), .val (.int (1 : Int32)), .val (.int (2 : Int32)), .val (.ref a_WRITE), .val (.ref a_INCREMENT), .val (.ref b3), .val (.int (1 : Int32))] [(.int (1 : Int32))])) _
    exact retN X5 hx (t := .boolean) Bd.returns (by simp) (hb hby at_178) hr
  · exact ⟨rfl, N5⟩
set_option maxRecDepth 65536 in
set_option maxHeartbeats 40000000 in
theorem rm2_8 (l : Launch) (Z : State) (a0 : Array Value) (hw : ∀ d ∈ tables_1, d.before a0 Z = true) (ws : List Jvm.Cond) (p0 p1 : Int32) (a_READ a_COMMIT a_ABORT a_WRITE a_INCREMENT : Addr) (h0 : Heap) (n0 : Nat) (Z0 : n0 ≤ h0.size) (FF : Facts Z h0 a_READ a_COMMIT a_ABORT a_WRITE a_INCREMENT) :
    MetFree l (⟨"com/example/schedulock/schedulock/schedule/OperationKind", "conflictsWith", "(Lcom/example/schedulock/schedulock/schedule/OperationKind;)Z"⟩ : MethodName) (head1 (Jvm.Cond.code (⟨"com/example/schedulock/schedulock/schedule/OperationKind", "conflictsWith", "(Lcom/example/schedulock/schedulock/schedule/OperationKind;)Z"⟩ : MethodName) prog_31_method_5_code 2 (some .boolean) :: ws) ({ frames := 0, cells := 0, slots := 0, locals := 0 } : Room)) (fun a U => a = #[(.ref a_WRITE), (.ref a_COMMIT)] ∧ Z.Warmed39 U.vm ∧ U.heap = h0) (fun _ _ _ _ _ => True) (fun _ U o U' => ∃ v L, o = .returned v ∧ own_Q (.int (0 : Int32)) h0 n0 v U'.heap L ∧ FrameEnd U o U' L ({ frames := 0, cells := 0, slots := 0, locals := 0 } : Room).cells ({ frames := 0, cells := 0, slots := 0, locals := 0 } : Room).slots) := by
  refine MetFree.of_bodySF (plainFor_of_name pn_2) hisR ?_
  intro p e s m args below meth c s₁ Bd hml0 hP hK
  obtain ⟨rfl, hZ, hh⟩ := hP
  have hx := Bd.exec
  have hby := Bd.bytes
  have hml : c.maxLocals = 2 := hml0
  have hown : s.vm.findClass "com/example/schedulock/schedulock/schedule/OperationKind" = some m.cls := findClass_of_methodNamed Bd.named
  have X0 : Stand p l e ({ frames := 0, cells := 0, slots := 0, locals := 0 } : Room) s m #[(.ref a_WRITE), (.ref a_COMMIT)] below meth c s₁ [] 0 0 := Stand.of_body Bd
  have e0 : s₁.heap = h0 := by rw [← hh, Bd.state]; rfl
  have N0 := Fr.nil n0
  have pre0 : ∀ t, Steps p.tables e below (s₁.setTop (mkF m 0 #[.val (.ref a_WRITE), .val (.ref a_COMMIT)] [])) t → Steps p.tables e below (s₁.setTop (entryFrame m #[(.ref a_WRITE), (.ref a_COMMIT)] 2)) t := fun t k => castTop (ef_2 m a_WRITE a_COMMIT) k
  obtain ⟨T1, X1, e1, st1⟩ := getF X0 hx hZ hown (host := "") (Or.inl (hw _ (List.mem_of_getElem? (i := 16) rfl))) Via.refl e0 (fx_F_WRITE_takesItem FF) (g := (mkF m 1 #[.val (.ref a_WRITE), .val (.ref a_COMMIT)] [(.ref a_WRITE)])) rfl rfl (hb hby d2_1)
  obtain ⟨T2, X2, e2, st2⟩ := getF X1 hx hZ hown (host := "") (Or.inl (hw _ (List.mem_of_getElem? (i := 16) rfl))) Via.refl e1 (fx_F_COMMIT_takesItem FF) (g := (mkF m 8 #[.val (.ref a_WRITE), .val (.ref a_COMMIT)] [(.ref a_COMMIT)])) rfl rfl (hb hby d2_8)
  obtain ⟨fs, hr, hrun, hended, hW, hsame⟩ := X2.leave (v := some (.int (0 : Int32))) (fun h => by rw [Bd.returns] at h; cases h)
  refine ⟨_, _, pre0 _ ?_, hrun, hended, _, _, rfl, ?_, ⟨_, rfl⟩, hW, hsame.mono (by decide) (by decide)⟩
  · show Steps p.tables e below (s₁.setTop (mkF m 0 #[.val (.ref a_WRITE), .val (.ref a_COMMIT)] [])) _
    refine XS.aloadN X0.here hx rfl (hb hby d2_0) rfl rfl ?_
    show Steps p.tables e below (s₁.setTop (mkF m 1 #[.val (.ref a_WRITE), .val (.ref a_COMMIT)] [(.ref a_WRITE)])) _
    refine st1 _ ?_
    show Steps p.tables e below (T1.setTop (mkF m 4 #[.val (.ref a_WRITE), .val (.ref a_COMMIT)] [(.int (1 : Int32))])) _
    refine XS.ifNo X1.here hx rfl (hb hby d2_4) rfl (by decide) ?_
    show Steps p.tables e below (T1.setTop (mkF m 7 #[.val (.ref a_WRITE), .val (.ref a_COMMIT)] [])) _
    refine XS.aloadN X1.here hx rfl (hb hby d2_7) rfl rfl ?_
    show Steps p.tables e below (T1.setTop (mkF m 8 #[.val (.ref a_WRITE), .val (.ref a_COMMIT)] [(.ref a_COMMIT)])) _
    refine st2 _ ?_
    show Steps p.tables e below (T2.setTop (mkF m 11 #[.val (.ref a_WRITE), .val (.ref a_COMMIT)] [(.int (0 : Int32))])) _
    refine XS.ifYes X2.here hx rfl (pc0 := 11) (pc' := 30) rfl (hb hby d2_11) rfl (by decide) (by decide) (by decide) ?_
    show Steps p.tables e below (T2.setTop (mkF m 30 #[.val (.ref a_WRITE), .val (.ref a_COMMIT)] [])) _
    refine XS.iconst X2.here hx rfl (hb hby d2_30) ?_
    show Steps p.tables e below (T2.setTop (mkF m 31 #[.val (.ref a_WRITE), .val (.ref a_COMMIT)] [(.int (0 : Int32))])) _
    exact retN X2 hx (t := .boolean) Bd.returns (by simp) (hb hby d2_31) hr
  · show own_Q _ _ _ _ T2.heap _
    exact ⟨rfl, N0, e2⟩
set_option maxRecDepth 65536 in
set_option maxHeartbeats 40000000 in
theorem rm0_8 (l : Launch) (Z : State) (a0 : Array Value) (hw : ∀ d ∈ tables_1, d.before a0 Z = true) (ws : List Jvm.Cond) (p0 p1 : Int32) (a_READ a_COMMIT a_ABORT a_WRITE a_INCREMENT : Addr) (h0 : Heap) (n0 : Nat) (Z0 : n0 ≤ h0.size) (FF : Facts Z h0 a_READ a_COMMIT a_ABORT a_WRITE a_INCREMENT) (hk0 : ((p0 &&& (2147483647 : Int32)) % (5 : Int32)) = (1 : Int32)) (hk1 : ((p1 &&& (2147483647 : Int32)) % (5 : Int32)) = (3 : Int32)) :
    MetFree l x (head1 (Jvm.Cond.code x code maxLocals ret :: ws) room_1) (fun a U => a = #[(.int p0), (.int p1)] ∧ Z.Warmed39 U.vm ∧ U.heap = h0) (fun _ _ _ _ _ => True) (fun _ U o U' => ∃ v L, o = .returned v ∧ (v = some (.int (1 : Int32)) ∧ Fr n0 L) ∧ FrameEnd U o U' L room_1.cells room_1.slots) := by
  refine MetFree.of_bodySF (plainFor_of_name pn_0) hisR ?_
  intro p e s m args below meth c s₁ Bd hml0 hP hK
  obtain ⟨rfl, hZ, hh⟩ := hP
  have hx := Bd.exec
  have hby := Bd.bytes
  have hml : c.maxLocals = 8 := hml0
  have hown : s.vm.findClass "com/example/schedulock/schedulock/schedule/OperationKindConflictsWithPinLaw" = some m.cls := findClass_of_methodNamed Bd.named
  have X0 : Stand p l e room_1 s m #[(.int p0), (.int p1)] below meth c s₁ [] 0 0 := Stand.of_body Bd
  have e0 : s₁.heap = h0 := by rw [← hh, Bd.state]; rfl
  have N0 := Fr.nil n0
  have pre0 : ∀ t, Steps p.tables e below (s₁.setTop (mkF m 0 #[.val (.int p0), .val (.int p1), .unset, .unset, .unset, .unset, .unset, .unset] [])) t → Steps p.tables e below (s₁.setTop (entryFrame m #[(.int p0), (.int p1)] maxLocals)) t := fun t k => castTop (ef_0 m p0 p1) k
  obtain ⟨_, _, ⟨T1, L1, k1, n1⟩, -, X1, ⟨Lc1, hQ1, l1, y1, z1⟩, st1⟩ := Jvm.LawKit.callS X0 hx (y := (⟨"com/example/schedulock/schedulock/schedule/OperationKindConflictsWithPinLaw", "kind", "(I)Lcom/example/schedulock/schedulock/schedule/OperationKind;"⟩ : MethodName)) hown (mvT hZ (hw _ (List.mem_of_getElem? (i := 1) rfl))) (mvT hZ (hw _ (List.mem_of_getElem? (i := 2) rfl))) (mvT hZ (hw _ (List.mem_of_getElem? (i := 3) rfl))) (mvT hZ (hw _ (List.mem_of_getElem? (i := 4) rfl))) (by decide) (backOf (W := 0) (rm1_1 l Z a0 hw [] p0 p1 a_READ a_COMMIT a_ABORT a_WRITE a_INCREMENT h0 n0 (Nat.le_trans Z0 (Nat.le_refl _)) FF) hZ (hw _ (List.mem_of_getElem? (i := 4) rfl)) (hw _ (List.mem_of_getElem? (i := 3) rfl)) (by decide) (by decide)) (g := (mkF m 15 #[.val (.int p0), .val (.int p1), .val (.int (1 : Int32)), .val (.int (3 : Int32)), .unset, .unset, .unset, .unset] [(.int (1 : Int32))])) rfl (by rw [hml]; rfl) (argsL := [(.int (1 : Int32))]) (rest := []) (lenOf pd_0 rfl) rfl (by show 2 * 0 + _ ≤ _; exact Nat.le_of_eq rfl) (hb hby at_15) (fun _ _ => ⟨rfl, e0, (by decide : 0 + 0 ≤ _), (by decide : 0 + 0 ≤ _)⟩)
  dsimp only [Pt.U, Pt.locs, Pt.cells, Pt.slots] at X1 l1 y1 z1 st1 hQ1
  subst l1 y1 z1
  obtain ⟨rfl, N1q, e1⟩ := hQ1
  have N1 := Fr.app N0 N1q
  obtain ⟨_, _, ⟨T2, L2, k2, n2⟩, -, X2, ⟨Lc2, hQ2, l2, y2, z2⟩, st2⟩ := Jvm.LawKit.callS X1 hx (y := (⟨"com/example/schedulock/schedulock/schedule/OperationKindConflictsWithPinLaw", "kind", "(I)Lcom/example/schedulock/schedulock/schedule/OperationKind;"⟩ : MethodName)) hown (mvT hZ (hw _ (List.mem_of_getElem? (i := 1) rfl))) (mvT hZ (hw _ (List.mem_of_getElem? (i := 2) rfl))) (mvT hZ (hw _ (List.mem_of_getElem? (i := 3) rfl))) (mvT hZ (hw _ (List.mem_of_getElem? (i := 4) rfl))) (by decide) (backOf (W := 0) (rm1_3 l Z a0 hw [] p0 p1 a_READ a_COMMIT a_ABORT a_WRITE a_INCREMENT h0 n0 (Nat.le_trans Z0 (Nat.le_refl _)) FF) hZ (hw _ (List.mem_of_getElem? (i := 4) rfl)) (hw _ (List.mem_of_getElem? (i := 3) rfl)) (by decide) (by decide)) (g := (mkF m 21 #[.val (.int p0), .val (.int p1), .val (.int (1 : Int32)), .val (.int (3 : Int32)), .val (.ref a_WRITE), .unset, .unset, .unset] [(.int (3 : Int32))])) rfl (by rw [hml]; rfl) (argsL := [(.int (3 : Int32))]) (rest := []) (lenOf pd_0 rfl) rfl (by show 2 * 0 + _ ≤ _; exact Nat.le_of_eq rfl) (hb hby at_21) (fun _ _ => ⟨rfl, e1, (by decide : 0 + 0 ≤ _), (by decide : 0 + 0 ≤ _)⟩)
  dsimp only [Pt.U, Pt.locs, Pt.cells, Pt.slots] at X2 l2 y2 z2 st2 hQ2
  subst l2 y2 z2
  obtain ⟨rfl, N2q, e2⟩ := hQ2
  have N2 := Fr.app N1 N2q
  obtain ⟨T3, h3, b3, k3, lc3, X3, e3, s_b3, z3, N3, FF3, V3, st3⟩ := seg_0 (l := l) (Z := Z) hw a_READ a_COMMIT a_ABORT a_WRITE a_INCREMENT p0 p1 (1 : Int32) (3 : Int32) a_WRITE a_COMMIT X2 hx hZ hby hml hown e2 Z0 N2 FF
  obtain ⟨c4, r4, -, S4, -, H4, -⟩ := V3
  have i4 : ¬ ((8 : Int32) < 0 ∨ c4.slots.size ≤ ((8 : Int32)).toNatClampNeg) := inb_of S4 ⟨by decide, by decide⟩
  have y4 : c4.slots[((8 : Int32)).toNatClampNeg]? = some (.int (0 : Int32)) := H4 8 (by rw [S4]; decide)
  obtain ⟨cq5, kq5, q5a, q5b, q5c⟩ := isOf hZ e3 (fx_E_WRITE FF3)
  obtain ⟨_, _, ⟨T5, L5, k5, n5⟩, -, X5, ⟨Lc5, hQ5, l5, y5, z5⟩, st5⟩ := X3.virtualBack hx (y := (⟨"com/example/schedulock/schedulock/schedule/OperationKind", "conflictsWith", "(Lcom/example/schedulock/schedulock/schedule/OperationKind;)Z"⟩ : MethodName)) (z := (⟨"com/example/schedulock/schedulock/schedule/OperationKind", "conflictsWith", "(Lcom/example/schedulock/schedulock/schedule/OperationKind;)Z"⟩ : MethodName)) hown (mvT hZ (hw _ (List.mem_of_getElem? (i := 11) rfl))) (mvT hZ (hw _ (List.mem_of_getElem? (i := 12) rfl))) (notFace_of_selects (args := #[]) (mvT hZ (hw _ (List.mem_of_getElem? (i := 14) rfl)))) (mvT hZ (hw _ (List.mem_of_getElem? (i := 14) rfl))) (mvT hZ (hw _ (List.mem_of_getElem? (i := 13) rfl))) (by decide) (backOf (W := 0) (rm2_8 l Z a0 hw [] p0 p1 a_READ a_COMMIT a_ABORT a_WRITE a_INCREMENT h3 n0 (Nat.le_trans Z0 z3) FF3) hZ (hw _ (List.mem_of_getElem? (i := 15) rfl)) (hw _ (List.mem_of_getElem? (i := 6) rfl)) (by decide) (by decide)) q5a q5c (g := (mkF m 165 #[.val (.int p0), .val (.int p1), .val (.int (1 : Int32)), .val (.int (3 : Int32)), .val (.ref a_WRITE), .val (.ref a_COMMIT), .val (.ref b3), .val (.int (0 : Int32))] [(.ref a_COMMIT), (.ref a_WRITE)])) rfl (by rw [hml]; rfl) (Steps.refl _) (argsL := [(.ref a_COMMIT)]) (rest := []) (lenOf pd_1 rfl) rfl (by show 2 * 0 + _ ≤ _; exact Nat.le_of_eq rfl) (hb hby at_165) (fun _ _ => ⟨rfl, e3, (by decide : 1 + 0 ≤ _), (by decide : 25 + 0 ≤ _)⟩)
  dsimp only [Pt.U, Pt.locs, Pt.cells, Pt.slots] at X5 l5 y5 z5 st5 hQ5
  subst l5 y5 z5
  obtain ⟨rfl, N5q, e5⟩ := hQ5
  have N5 := Fr.app N3 N5q
  obtain ⟨fs, hr, hrun, hended, hW, hsame⟩ := X5.leave (v := some (.int (1 : Int32))) (fun h => by rw [Bd.returns] at h; cases h)
  refine ⟨_, _, pre0 _ ?_, hrun, hended, _, _, rfl, ?_, ⟨_, rfl⟩, hW, hsame.mono (by decide) (by decide)⟩
  · show Steps p.tables e below (s₁.setTop (mkF m 0 #[.val (.int p0), .val (.int p1), .unset, .unset, .unset, .unset, .unset, .unset] [])) _
    refine XS.iloadN X0.here hx rfl (hb hby at_0) rfl ?_
    show Steps p.tables e below (s₁.setTop (mkF m 1 #[.val (.int p0), .val (.int p1), .unset, .unset, .unset, .unset, .unset, .unset] [(.int p0)])) _
    refine X0.ldcInt hx hown (mvT hZ (hw _ (List.mem_of_getElem? (i := 0) rfl))) (g := (mkF m 1 #[.val (.int p0), .val (.int p1), .unset, .unset, .unset, .unset, .unset, .unset] [(.int p0)])) rfl (hb hby at_1) _ ?_
    show Steps p.tables e below (s₁.setTop (mkF m 3 #[.val (.int p0), .val (.int p1), .unset, .unset, .unset, .unset, .unset, .unset] [(.int (2147483647 : Int32)), (.int p0)])) _
    refine XS.iand X0.here hx rfl (hb hby at_3) rfl ?_
    show Steps p.tables e below (s₁.setTop (mkF m 4 #[.val (.int p0), .val (.int p1), .unset, .unset, .unset, .unset, .unset, .unset] [(.int (p0 &&& (2147483647 : Int32)))])) _
    refine XS.iconst X0.here hx rfl (hb hby at_4) ?_
    show Steps p.tables e below (s₁.setTop (mkF m 5 #[.val (.int p0), .val (.int p1), .unset, .unset, .unset, .unset, .unset, .unset] [(.int (5 : Int32)), (.int (p0 &&& (2147483647 : Int32)))])) _
    refine iremM X0 hx rfl (hb hby at_5) rfl (by decide) ?_
    show Steps p.tables e below (s₁.setTop (mkF m 6 #[.val (.int p0), .val (.int p1), .unset, .unset, .unset, .unset, .unset, .unset] [(.int ((p0 &&& (2147483647 : Int32)) % (5 : Int32)))])) _
    rw [hk0]
    show Steps p.tables e below (s₁.setTop (mkF m 6 #[.val (.int p0), .val (.int p1), .unset, .unset, .unset, .unset, .unset, .unset] [(.int (1 : Int32))])) _
    refine XS.istoreN X0.here hx rfl (hb hby at_6) rfl (l' := #[.val (.int p0), .val (.int p1), .val (.int (1 : Int32)), .unset, .unset, .unset, .unset, .unset]) rfl ?_
    show Steps p.tables e below (s₁.setTop (mkF m 7 #[.val (.int p0), .val (.int p1), .val (.int (1 : Int32)), .unset, .unset, .unset, .unset, .unset] [])) _
    refine XS.iloadN X0.here hx rfl (hb hby at_7) rfl ?_
    show Steps p.tables e below (s₁.setTop (mkF m 8 #[.val (.int p0), .val (.int p1), .val (.int (1 : Int32)), .unset, .unset, .unset, .unset, .unset] [(.int p1)])) _
    refine X0.ldcInt hx hown (mvT hZ (hw _ (List.mem_of_getElem? (i := 0) rfl))) (g := (mkF m 8 #[.val (.int p0), .val (.int p1), .val (.int (1 : Int32)), .unset, .unset, .unset, .unset, .unset] [(.int p1)])) rfl (hb hby at_8) _ ?_
    show Steps p.tables e below (s₁.setTop (mkF m 10 #[.val (.int p0), .val (.int p1), .val (.int (1 : Int32)), .unset, .unset, .unset, .unset, .unset] [(.int (2147483647 : Int32)), (.int p1)])) _
    refine XS.iand X0.here hx rfl (hb hby at_10) rfl ?_
    show Steps p.tables e below (s₁.setTop (mkF m 11 #[.val (.int p0), .val (.int p1), .val (.int (1 : Int32)), .unset, .unset, .unset, .unset, .unset] [(.int (p1 &&& (2147483647 : Int32)))])) _
    refine XS.iconst X0.here hx rfl (hb hby at_11) ?_
    show Steps p.tables e below (s₁.setTop (mkF m 12 #[.val (.int p0), .val (.int p1), .val (.int (1 : Int32)), .unset, .unset, .unset, .unset, .unset] [(.int (5 : Int32)), (.int (p1 &&& (2147483647 : Int32)))])) _
    refine iremM X0 hx rfl (hb hby at_12) rfl (by decide) ?_
    show Steps p.tables e below (s₁.setTop (mkF m 13 #[.val (.int p0), .val (.int p1), .val (.int (1 : Int32)), .unset, .unset, .unset, .unset, .unset] [(.int ((p1 &&& (2147483647 : Int32)) % (5 : Int32)))])) _
    rw [hk1]
    show Steps p.tables e below (s₁.setTop (mkF m 13 #[.val (.int p0), .val (.int p1), .val (.int (1 : Int32)), .unset, .unset, .unset, .unset, .unset] [(.int (3 : Int32))])) _
    refine XS.istoreN X0.here hx rfl (hb hby at_13) rfl (l' := #[.val (.int p0), .val (.int p1), .val (.int (1 : Int32)), .val (.int (3 : Int32)), .unset, .unset, .unset, .unset]) rfl ?_
    show Steps p.tables e below (s₁.setTop (mkF m 14 #[.val (.int p0), .val (.int p1), .val (.int (1 : Int32)), .val (.int (3 : Int32)), .unset, .unset, .unset, .unset] [])) _
    refine XS.iloadN X0.here hx rfl (hb hby at_14) rfl ?_
    show Steps p.tables e below (s₁.setTop (mkF m 15 #[.val (.int p0), .val (.int p1), .val (.int (1 : Int32)), .val (.int (3 : Int32)), .unset, .unset, .unset, .unset] [(.int (1 : Int32))])) _
    refine st1 _ ?_
    show Steps p.tables e below (T1.setTop (mkF m 18 #[.val (.int p0), .val (.int p1), .val (.int (1 : Int32)), .val (.int (3 : Int32)), .unset, .unset, .unset, .unset] [(.ref a_WRITE)])) _
    refine XS.astore X1.here hx rfl (hb hby at_18) rfl rfl (l' := #[.val (.int p0), .val (.int p1), .val (.int (1 : Int32)), .val (.int (3 : Int32)), .val (.ref a_WRITE), .unset, .unset, .unset]) rfl ?_
    show Steps p.tables e below (T1.setTop (mkF m 20 #[.val (.int p0), .val (.int p1), .val (.int (1 : Int32)), .val (.int (3 : Int32)), .val (.ref a_WRITE), .unset, .unset, .unset] [])) _
    refine XS.iloadN X1.here hx rfl (hb hby at_20) rfl ?_
    show Steps p.tables e below (T1.setTop (mkF m 21 #[.val (.int p0), .val (.int p1), .val (.int (1 : Int32)), .val (.int (3 : Int32)), .val (.ref a_WRITE), .unset, .unset, .unset] [(.int (3 : Int32))])) _
    refine st2 _ ?_
    show Steps p.tables e below (T2.setTop (mkF m 24 #[.val (.int p0), .val (.int p1), .val (.int (1 : Int32)), .val (.int (3 : Int32)), .val (.ref a_WRITE), .unset, .unset, .unset] [(.ref a_COMMIT)])) _
    refine XS.astore X2.here hx rfl (hb hby at_24) rfl rfl (l' := #[.val (.int p0), .val (.int p1), .val (.int (1 : Int32)), .val (.int (3 : Int32)), .val (.ref a_WRITE), .val (.ref a_COMMIT), .unset, .unset]) rfl ?_
    show Steps p.tables e below (T2.setTop (mkF m 26 #[.val (.int p0), .val (.int p1), .val (.int (1 : Int32)), .val (.int (3 : Int32)), .val (.ref a_WRITE), .val (.ref a_COMMIT), .unset, .unset] [])) _
    refine st3 _ ?_
    show Steps p.tables e below (T3.setTop (mkF m 151 #[.val (.int p0), .val (.int p1), .val (.int (1 : Int32)), .val (.int (3 : Int32)), .val (.ref a_WRITE), .val (.ref a_COMMIT), .val (.ref b3), .unset] [])) _
    refine XS.aload X3.here hx rfl (hb hby at_151) rfl rfl ?_
    show Steps p.tables e below (T3.setTop (mkF m 153 #[.val (.int p0), .val (.int p1), .val (.int (1 : Int32)), .val (.int (3 : Int32)), .val (.ref a_WRITE), .val (.ref a_COMMIT), .val (.ref b3), .unset] [(.ref b3)])) _
    refine XS.iloadN X3.here hx rfl (hb hby at_153) rfl ?_
    show Steps p.tables e below (T3.setTop (mkF m 154 #[.val (.int p0), .val (.int p1), .val (.int (1 : Int32)), .val (.int (3 : Int32)), .val (.ref a_WRITE), .val (.ref a_COMMIT), .val (.ref b3), .unset] [(.int (1 : Int32)), (.ref b3)])) _
    refine XS.iconst X3.here hx rfl (hb hby at_154) ?_
    show Steps p.tables e below (T3.setTop (mkF m 155 #[.val (.int p0), .val (.int p1), .val (.int (1 : Int32)), .val (.int (3 : Int32)), .val (.ref a_WRITE), .val (.ref a_COMMIT), .val (.ref b3), .unset] [(.int (5 : Int32)), (.int (1 : Int32)), (.ref b3)])) _
    refine XS.imul X3.here hx rfl (hb hby at_155) rfl ?_
    show Steps p.tables e below (T3.setTop (mkF m 156 #[.val (.int p0), .val (.int p1), .val (.int (1 : Int32)), .val (.int (3 : Int32)), .val (.ref a_WRITE), .val (.ref a_COMMIT), .val (.ref b3), .unset] [(.int ((1 : Int32) * (5 : Int32))), (.ref b3)])) _
    rw [(by decide : ((1 : Int32) * (5 : Int32)) = (5 : Int32))]
    show Steps p.tables e below (T3.setTop (mkF m 156 #[.val (.int p0), .val (.int p1), .val (.int (1 : Int32)), .val (.int (3 : Int32)), .val (.ref a_WRITE), .val (.ref a_COMMIT), .val (.ref b3), .unset] [(.int (5 : Int32)), (.ref b3)])) _
    refine XS.iloadN X3.here hx rfl (hb hby at_156) rfl ?_
    show Steps p.tables e below (T3.setTop (mkF m 157 #[.val (.int p0), .val (.int p1), .val (.int (1 : Int32)), .val (.int (3 : Int32)), .val (.ref a_WRITE), .val (.ref a_COMMIT), .val (.ref b3), .unset] [(.int (3 : Int32)), (.int (5 : Int32)), (.ref b3)])) _
    refine XS.iadd X3.here hx rfl (hb hby at_157) rfl ?_
    show Steps p.tables e below (T3.setTop (mkF m 158 #[.val (.int p0), .val (.int p1), .val (.int (1 : Int32)), .val (.int (3 : Int32)), .val (.ref a_WRITE), .val (.ref a_COMMIT), .val (.ref b3), .unset] [(.int ((5 : Int32) + (3 : Int32))), (.ref b3)])) _
    rw [(by decide : ((5 : Int32) + (3 : Int32)) = (8 : Int32))]
    show Steps p.tables e below (T3.setTop (mkF m 158 #[.val (.int p0), .val (.int p1), .val (.int (1 : Int32)), .val (.int (3 : Int32)), .val (.ref a_WRITE), .val (.ref a_COMMIT), .val (.ref b3), .unset] [(.int (8 : Int32)), (.ref b3)])) _
    refine X3.baloadBooleans hx (j := (8 : Int32)) (v := (.int (0 : Int32))) (by rw [e3]; exact r4.1) (State.isArrayOf_alike hZ.alike r4.2.1) r4.2.2 i4 y4 (g := (mkF m 158 #[.val (.int p0), .val (.int p1), .val (.int (1 : Int32)), .val (.int (3 : Int32)), .val (.ref a_WRITE), .val (.ref a_COMMIT), .val (.ref b3), .unset] [(.int (8 : Int32)), (.ref b3)])) rfl rfl (hb hby at_158) _ ?_
    show Steps p.tables e below (T3.setTop (mkF m 159 #[.val (.int p0), .val (.int p1), .val (.int (1 : Int32)), .val (.int (3 : Int32)), .val (.ref a_WRITE), .val (.ref a_COMMIT), .val (.ref b3), .unset] [(.int (0 : Int32))])) _
    refine XS.istore X3.here hx rfl (hb hby at_159) rfl (l' := #[.val (.int p0), .val (.int p1), .val (.int (1 : Int32)), .val (.int (3 : Int32)), .val (.ref a_WRITE), .val (.ref a_COMMIT), .val (.ref b3), .val (.int (0 : Int32))]) rfl ?_
    show Steps p.tables e below (T3.setTop (mkF m 161 #[.val (.int p0), .val (.int p1), .val (.int (1 : Int32)), .val (.int (3 : Int32)), .val (.ref a_WRITE), .val (.ref a_COMMIT), .val (.ref b3), .val (.int (0 : Int32))] [])) _
    refine XS.aload X3.here hx rfl (hb hby at_161) rfl rfl ?_
    show Steps p.tables e below (T3.setTop (mkF m 163 #[.val (.int p0), .val (.int p1), .val (.int (1 : Int32)), .val (.int (3 : Int32)), .val (.ref a_WRITE), .val (.ref a_COMMIT), .val (.ref b3), .val (.int (0 : Int32))] [(.ref a_WRITE)])) _
    refine XS.aload X3.here hx rfl (hb hby at_163) rfl rfl ?_
    show Steps p.tables e below (T3.setTop (mkF m 165 #[.val (.int p0), .val (.int p1), .val (.int (1 : Int32)), .val (.int (3 : Int32)), .val (.ref a_WRITE), .val (.ref a_COMMIT), .val (.ref b3), .val (.int (0 : Int32))] [(.ref a_COMMIT), (.ref a_WRITE)])) _
    refine st5.trans ?_
    show Steps p.tables e below (T5.setTop (mkF m 168 #[.val (.int p0), .val (.int p1), .val (.int (1 : Int32)), .val (.int (3 : Int32)), .val (.ref a_WRITE), .val (.ref a_COMMIT), .val (.ref b3), .val (.int (0 : Int32))] [(.int (0 : Int32))])) _
    refine XS.iload X5.here hx rfl (hb hby at_168) rfl ?_
    show Steps p.tables e below (T5.setTop (mkF m 170 #[.val (.int p0), .val (.int p1), .val (.int (1 : Int32)), .val (.int (3 : Int32)), .val (.ref a_WRITE), .val (.ref a_COMMIT), .val (.ref b3), .val (.int (0 : Int32))] [(.int (0 : Int32)), (.int (0 : Int32))])) _
    refine XS.icmpNo X5.here hx rfl (hb hby at_170) rfl (by decide) ?_
    show Steps p.tables e below (T5.setTop (mkF m 173 #[.val (.int p0), .val (.int p1), .val (.int (1 : Int32)), .val (.int (3 : Int32)), .val (.ref a_WRITE), .val (.ref a_COMMIT), .val (.ref b3), .val (.int (0 : Int32))] [])) _
    refine XS.iconst X5.here hx rfl (hb hby at_173) ?_
    show Steps p.tables e below (T5.setTop (mkF m 174 #[.val (.int p0), .val (.int p1), .val (.int (1 : Int32)), .val (.int (3 : Int32)), .val (.ref a_WRITE), .val (.ref a_COMMIT), .val (.ref b3), .val (.int (0 : Int32))] [(.int (1 : Int32))])) _
    refine XS.goto X5.here hx rfl (pc0 := 174) (pc' := 178) rfl (hb hby at_174) (by decide) (by decide) ?_
    show Steps p.tables e below (T5.setTop (mkF m 178 #[.val (.int p0), .val (.int p1), .val (.int (1 : Int32)), .val (.int (3 : Int32)), .val (.ref a_WRITE), .val (.ref a_COMMIT), .val (.ref b3), .val (.int (0 : Int32))] [(.int (1 : Int32))])) _
    exact retN X5 hx (t := .boolean) Bd.returns (by simp) (hb hby at_178) hr
  · exact ⟨rfl, N5⟩
set_option maxRecDepth 65536 in
set_option maxHeartbeats 40000000 in
theorem rm2_9 (l : Launch) (Z : State) (a0 : Array Value) (hw : ∀ d ∈ tables_1, d.before a0 Z = true) (ws : List Jvm.Cond) (p0 p1 : Int32) (a_READ a_COMMIT a_ABORT a_WRITE a_INCREMENT : Addr) (h0 : Heap) (n0 : Nat) (Z0 : n0 ≤ h0.size) (FF : Facts Z h0 a_READ a_COMMIT a_ABORT a_WRITE a_INCREMENT) :
    MetFree l (⟨"com/example/schedulock/schedulock/schedule/OperationKind", "conflictsWith", "(Lcom/example/schedulock/schedulock/schedule/OperationKind;)Z"⟩ : MethodName) (head1 (Jvm.Cond.code (⟨"com/example/schedulock/schedulock/schedule/OperationKind", "conflictsWith", "(Lcom/example/schedulock/schedulock/schedule/OperationKind;)Z"⟩ : MethodName) prog_31_method_5_code 2 (some .boolean) :: ws) ({ frames := 0, cells := 0, slots := 0, locals := 0 } : Room)) (fun a U => a = #[(.ref a_WRITE), (.ref a_ABORT)] ∧ Z.Warmed39 U.vm ∧ U.heap = h0) (fun _ _ _ _ _ => True) (fun _ U o U' => ∃ v L, o = .returned v ∧ own_Q (.int (0 : Int32)) h0 n0 v U'.heap L ∧ FrameEnd U o U' L ({ frames := 0, cells := 0, slots := 0, locals := 0 } : Room).cells ({ frames := 0, cells := 0, slots := 0, locals := 0 } : Room).slots) := by
  refine MetFree.of_bodySF (plainFor_of_name pn_2) hisR ?_
  intro p e s m args below meth c s₁ Bd hml0 hP hK
  obtain ⟨rfl, hZ, hh⟩ := hP
  have hx := Bd.exec
  have hby := Bd.bytes
  have hml : c.maxLocals = 2 := hml0
  have hown : s.vm.findClass "com/example/schedulock/schedulock/schedule/OperationKind" = some m.cls := findClass_of_methodNamed Bd.named
  have X0 : Stand p l e ({ frames := 0, cells := 0, slots := 0, locals := 0 } : Room) s m #[(.ref a_WRITE), (.ref a_ABORT)] below meth c s₁ [] 0 0 := Stand.of_body Bd
  have e0 : s₁.heap = h0 := by rw [← hh, Bd.state]; rfl
  have N0 := Fr.nil n0
  have pre0 : ∀ t, Steps p.tables e below (s₁.setTop (mkF m 0 #[.val (.ref a_WRITE), .val (.ref a_ABORT)] [])) t → Steps p.tables e below (s₁.setTop (entryFrame m #[(.ref a_WRITE), (.ref a_ABORT)] 2)) t := fun t k => castTop (ef_2 m a_WRITE a_ABORT) k
  obtain ⟨T1, X1, e1, st1⟩ := getF X0 hx hZ hown (host := "") (Or.inl (hw _ (List.mem_of_getElem? (i := 16) rfl))) Via.refl e0 (fx_F_WRITE_takesItem FF) (g := (mkF m 1 #[.val (.ref a_WRITE), .val (.ref a_ABORT)] [(.ref a_WRITE)])) rfl rfl (hb hby d2_1)
  obtain ⟨T2, X2, e2, st2⟩ := getF X1 hx hZ hown (host := "") (Or.inl (hw _ (List.mem_of_getElem? (i := 16) rfl))) Via.refl e1 (fx_F_ABORT_takesItem FF) (g := (mkF m 8 #[.val (.ref a_WRITE), .val (.ref a_ABORT)] [(.ref a_ABORT)])) rfl rfl (hb hby d2_8)
  obtain ⟨fs, hr, hrun, hended, hW, hsame⟩ := X2.leave (v := some (.int (0 : Int32))) (fun h => by rw [Bd.returns] at h; cases h)
  refine ⟨_, _, pre0 _ ?_, hrun, hended, _, _, rfl, ?_, ⟨_, rfl⟩, hW, hsame.mono (by decide) (by decide)⟩
  · show Steps p.tables e below (s₁.setTop (mkF m 0 #[.val (.ref a_WRITE), .val (.ref a_ABORT)] [])) _
    refine XS.aloadN X0.here hx rfl (hb hby d2_0) rfl rfl ?_
    show Steps p.tables e below (s₁.setTop (mkF m 1 #[.val (.ref a_WRITE), .val (.ref a_ABORT)] [(.ref a_WRITE)])) _
    refine st1 _ ?_
    show Steps p.tables e below (T1.setTop (mkF m 4 #[.val (.ref a_WRITE), .val (.ref a_ABORT)] [(.int (1 : Int32))])) _
    refine XS.ifNo X1.here hx rfl (hb hby d2_4) rfl (by decide) ?_
    show Steps p.tables e below (T1.setTop (mkF m 7 #[.val (.ref a_WRITE), .val (.ref a_ABORT)] [])) _
    refine XS.aloadN X1.here hx rfl (hb hby d2_7) rfl rfl ?_
    show Steps p.tables e below (T1.setTop (mkF m 8 #[.val (.ref a_WRITE), .val (.ref a_ABORT)] [(.ref a_ABORT)])) _
    refine st2 _ ?_
    show Steps p.tables e below (T2.setTop (mkF m 11 #[.val (.ref a_WRITE), .val (.ref a_ABORT)] [(.int (0 : Int32))])) _
    refine XS.ifYes X2.here hx rfl (pc0 := 11) (pc' := 30) rfl (hb hby d2_11) rfl (by decide) (by decide) (by decide) ?_
    show Steps p.tables e below (T2.setTop (mkF m 30 #[.val (.ref a_WRITE), .val (.ref a_ABORT)] [])) _
    refine XS.iconst X2.here hx rfl (hb hby d2_30) ?_
    show Steps p.tables e below (T2.setTop (mkF m 31 #[.val (.ref a_WRITE), .val (.ref a_ABORT)] [(.int (0 : Int32))])) _
    exact retN X2 hx (t := .boolean) Bd.returns (by simp) (hb hby d2_31) hr
  · show own_Q _ _ _ _ T2.heap _
    exact ⟨rfl, N0, e2⟩
set_option maxRecDepth 65536 in
set_option maxHeartbeats 40000000 in
theorem rm0_9 (l : Launch) (Z : State) (a0 : Array Value) (hw : ∀ d ∈ tables_1, d.before a0 Z = true) (ws : List Jvm.Cond) (p0 p1 : Int32) (a_READ a_COMMIT a_ABORT a_WRITE a_INCREMENT : Addr) (h0 : Heap) (n0 : Nat) (Z0 : n0 ≤ h0.size) (FF : Facts Z h0 a_READ a_COMMIT a_ABORT a_WRITE a_INCREMENT) (hk0 : ((p0 &&& (2147483647 : Int32)) % (5 : Int32)) = (1 : Int32)) (hk1 : ((p1 &&& (2147483647 : Int32)) % (5 : Int32)) = (4 : Int32)) :
    MetFree l x (head1 (Jvm.Cond.code x code maxLocals ret :: ws) room_1) (fun a U => a = #[(.int p0), (.int p1)] ∧ Z.Warmed39 U.vm ∧ U.heap = h0) (fun _ _ _ _ _ => True) (fun _ U o U' => ∃ v L, o = .returned v ∧ (v = some (.int (1 : Int32)) ∧ Fr n0 L) ∧ FrameEnd U o U' L room_1.cells room_1.slots) := by
  refine MetFree.of_bodySF (plainFor_of_name pn_0) hisR ?_
  intro p e s m args below meth c s₁ Bd hml0 hP hK
  obtain ⟨rfl, hZ, hh⟩ := hP
  have hx := Bd.exec
  have hby := Bd.bytes
  have hml : c.maxLocals = 8 := hml0
  have hown : s.vm.findClass "com/example/schedulock/schedulock/schedule/OperationKindConflictsWithPinLaw" = some m.cls := findClass_of_methodNamed Bd.named
  have X0 : Stand p l e room_1 s m #[(.int p0), (.int p1)] below meth c s₁ [] 0 0 := Stand.of_body Bd
  have e0 : s₁.heap = h0 := by rw [← hh, Bd.state]; rfl
  have N0 := Fr.nil n0
  have pre0 : ∀ t, Steps p.tables e below (s₁.setTop (mkF m 0 #[.val (.int p0), .val (.int p1), .unset, .unset, .unset, .unset, .unset, .unset] [])) t → Steps p.tables e below (s₁.setTop (entryFrame m #[(.int p0), (.int p1)] maxLocals)) t := fun t k => castTop (ef_0 m p0 p1) k
  obtain ⟨_, _, ⟨T1, L1, k1, n1⟩, -, X1, ⟨Lc1, hQ1, l1, y1, z1⟩, st1⟩ := Jvm.LawKit.callS X0 hx (y := (⟨"com/example/schedulock/schedulock/schedule/OperationKindConflictsWithPinLaw", "kind", "(I)Lcom/example/schedulock/schedulock/schedule/OperationKind;"⟩ : MethodName)) hown (mvT hZ (hw _ (List.mem_of_getElem? (i := 1) rfl))) (mvT hZ (hw _ (List.mem_of_getElem? (i := 2) rfl))) (mvT hZ (hw _ (List.mem_of_getElem? (i := 3) rfl))) (mvT hZ (hw _ (List.mem_of_getElem? (i := 4) rfl))) (by decide) (backOf (W := 0) (rm1_1 l Z a0 hw [] p0 p1 a_READ a_COMMIT a_ABORT a_WRITE a_INCREMENT h0 n0 (Nat.le_trans Z0 (Nat.le_refl _)) FF) hZ (hw _ (List.mem_of_getElem? (i := 4) rfl)) (hw _ (List.mem_of_getElem? (i := 3) rfl)) (by decide) (by decide)) (g := (mkF m 15 #[.val (.int p0), .val (.int p1), .val (.int (1 : Int32)), .val (.int (4 : Int32)), .unset, .unset, .unset, .unset] [(.int (1 : Int32))])) rfl (by rw [hml]; rfl) (argsL := [(.int (1 : Int32))]) (rest := []) (lenOf pd_0 rfl) rfl (by show 2 * 0 + _ ≤ _; exact Nat.le_of_eq rfl) (hb hby at_15) (fun _ _ => ⟨rfl, e0, (by decide : 0 + 0 ≤ _), (by decide : 0 + 0 ≤ _)⟩)
  dsimp only [Pt.U, Pt.locs, Pt.cells, Pt.slots] at X1 l1 y1 z1 st1 hQ1
  subst l1 y1 z1
  obtain ⟨rfl, N1q, e1⟩ := hQ1
  have N1 := Fr.app N0 N1q
  obtain ⟨_, _, ⟨T2, L2, k2, n2⟩, -, X2, ⟨Lc2, hQ2, l2, y2, z2⟩, st2⟩ := Jvm.LawKit.callS X1 hx (y := (⟨"com/example/schedulock/schedulock/schedule/OperationKindConflictsWithPinLaw", "kind", "(I)Lcom/example/schedulock/schedulock/schedule/OperationKind;"⟩ : MethodName)) hown (mvT hZ (hw _ (List.mem_of_getElem? (i := 1) rfl))) (mvT hZ (hw _ (List.mem_of_getElem? (i := 2) rfl))) (mvT hZ (hw _ (List.mem_of_getElem? (i := 3) rfl))) (mvT hZ (hw _ (List.mem_of_getElem? (i := 4) rfl))) (by decide) (backOf (W := 0) (rm1_4 l Z a0 hw [] p0 p1 a_READ a_COMMIT a_ABORT a_WRITE a_INCREMENT h0 n0 (Nat.le_trans Z0 (Nat.le_refl _)) FF) hZ (hw _ (List.mem_of_getElem? (i := 4) rfl)) (hw _ (List.mem_of_getElem? (i := 3) rfl)) (by decide) (by decide)) (g := (mkF m 21 #[.val (.int p0), .val (.int p1), .val (.int (1 : Int32)), .val (.int (4 : Int32)), .val (.ref a_WRITE), .unset, .unset, .unset] [(.int (4 : Int32))])) rfl (by rw [hml]; rfl) (argsL := [(.int (4 : Int32))]) (rest := []) (lenOf pd_0 rfl) rfl (by show 2 * 0 + _ ≤ _; exact Nat.le_of_eq rfl) (hb hby at_21) (fun _ _ => ⟨rfl, e1, (by decide : 0 + 0 ≤ _), (by decide : 0 + 0 ≤ _)⟩)
  dsimp only [Pt.U, Pt.locs, Pt.cells, Pt.slots] at X2 l2 y2 z2 st2 hQ2
  subst l2 y2 z2
  obtain ⟨rfl, N2q, e2⟩ := hQ2
  have N2 := Fr.app N1 N2q
  obtain ⟨T3, h3, b3, k3, lc3, X3, e3, s_b3, z3, N3, FF3, V3, st3⟩ := seg_0 (l := l) (Z := Z) hw a_READ a_COMMIT a_ABORT a_WRITE a_INCREMENT p0 p1 (1 : Int32) (4 : Int32) a_WRITE a_ABORT X2 hx hZ hby hml hown e2 Z0 N2 FF
  obtain ⟨c4, r4, -, S4, -, H4, -⟩ := V3
  have i4 : ¬ ((9 : Int32) < 0 ∨ c4.slots.size ≤ ((9 : Int32)).toNatClampNeg) := inb_of S4 ⟨by decide, by decide⟩
  have y4 : c4.slots[((9 : Int32)).toNatClampNeg]? = some (.int (0 : Int32)) := H4 9 (by rw [S4]; decide)
  obtain ⟨cq5, kq5, q5a, q5b, q5c⟩ := isOf hZ e3 (fx_E_WRITE FF3)
  obtain ⟨_, _, ⟨T5, L5, k5, n5⟩, -, X5, ⟨Lc5, hQ5, l5, y5, z5⟩, st5⟩ := X3.virtualBack hx (y := (⟨"com/example/schedulock/schedulock/schedule/OperationKind", "conflictsWith", "(Lcom/example/schedulock/schedulock/schedule/OperationKind;)Z"⟩ : MethodName)) (z := (⟨"com/example/schedulock/schedulock/schedule/OperationKind", "conflictsWith", "(Lcom/example/schedulock/schedulock/schedule/OperationKind;)Z"⟩ : MethodName)) hown (mvT hZ (hw _ (List.mem_of_getElem? (i := 11) rfl))) (mvT hZ (hw _ (List.mem_of_getElem? (i := 12) rfl))) (notFace_of_selects (args := #[]) (mvT hZ (hw _ (List.mem_of_getElem? (i := 14) rfl)))) (mvT hZ (hw _ (List.mem_of_getElem? (i := 14) rfl))) (mvT hZ (hw _ (List.mem_of_getElem? (i := 13) rfl))) (by decide) (backOf (W := 0) (rm2_9 l Z a0 hw [] p0 p1 a_READ a_COMMIT a_ABORT a_WRITE a_INCREMENT h3 n0 (Nat.le_trans Z0 z3) FF3) hZ (hw _ (List.mem_of_getElem? (i := 15) rfl)) (hw _ (List.mem_of_getElem? (i := 6) rfl)) (by decide) (by decide)) q5a q5c (g := (mkF m 165 #[.val (.int p0), .val (.int p1), .val (.int (1 : Int32)), .val (.int (4 : Int32)), .val (.ref a_WRITE), .val (.ref a_ABORT), .val (.ref b3), .val (.int (0 : Int32))] [(.ref a_ABORT), (.ref a_WRITE)])) rfl (by rw [hml]; rfl) (Steps.refl _) (argsL := [(.ref a_ABORT)]) (rest := []) (lenOf pd_1 rfl) rfl (by show 2 * 0 + _ ≤ _; exact Nat.le_of_eq rfl) (hb hby at_165) (fun _ _ => ⟨rfl, e3, (by decide : 1 + 0 ≤ _), (by decide : 25 + 0 ≤ _)⟩)
  dsimp only [Pt.U, Pt.locs, Pt.cells, Pt.slots] at X5 l5 y5 z5 st5 hQ5
  subst l5 y5 z5
  obtain ⟨rfl, N5q, e5⟩ := hQ5
  have N5 := Fr.app N3 N5q
  obtain ⟨fs, hr, hrun, hended, hW, hsame⟩ := X5.leave (v := some (.int (1 : Int32))) (fun h => by rw [Bd.returns] at h; cases h)
  refine ⟨_, _, pre0 _ ?_, hrun, hended, _, _, rfl, ?_, ⟨_, rfl⟩, hW, hsame.mono (by decide) (by decide)⟩
  · show Steps p.tables e below (s₁.setTop (mkF m 0 #[.val (.int p0), .val (.int p1), .unset, .unset, .unset, .unset, .unset, .unset] [])) _
    refine XS.iloadN X0.here hx rfl (hb hby at_0) rfl ?_
    show Steps p.tables e below (s₁.setTop (mkF m 1 #[.val (.int p0), .val (.int p1), .unset, .unset, .unset, .unset, .unset, .unset] [(.int p0)])) _
    refine X0.ldcInt hx hown (mvT hZ (hw _ (List.mem_of_getElem? (i := 0) rfl))) (g := (mkF m 1 #[.val (.int p0), .val (.int p1), .unset, .unset, .unset, .unset, .unset, .unset] [(.int p0)])) rfl (hb hby at_1) _ ?_
    show Steps p.tables e below (s₁.setTop (mkF m 3 #[.val (.int p0), .val (.int p1), .unset, .unset, .unset, .unset, .unset, .unset] [(.int (2147483647 : Int32)), (.int p0)])) _
    refine XS.iand X0.here hx rfl (hb hby at_3) rfl ?_
    show Steps p.tables e below (s₁.setTop (mkF m 4 #[.val (.int p0), .val (.int p1), .unset, .unset, .unset, .unset, .unset, .unset] [(.int (p0 &&& (2147483647 : Int32)))])) _
    refine XS.iconst X0.here hx rfl (hb hby at_4) ?_
    show Steps p.tables e below (s₁.setTop (mkF m 5 #[.val (.int p0), .val (.int p1), .unset, .unset, .unset, .unset, .unset, .unset] [(.int (5 : Int32)), (.int (p0 &&& (2147483647 : Int32)))])) _
    refine iremM X0 hx rfl (hb hby at_5) rfl (by decide) ?_
    show Steps p.tables e below (s₁.setTop (mkF m 6 #[.val (.int p0), .val (.int p1), .unset, .unset, .unset, .unset, .unset, .unset] [(.int ((p0 &&& (2147483647 : Int32)) % (5 : Int32)))])) _
    rw [hk0]
    show Steps p.tables e below (s₁.setTop (mkF m 6 #[.val (.int p0), .val (.int p1), .unset, .unset, .unset, .unset, .unset, .unset] [(.int (1 : Int32))])) _
    refine XS.istoreN X0.here hx rfl (hb hby at_6) rfl (l' := #[.val (.int p0), .val (.int p1), .val (.int (1 : Int32)), .unset, .unset, .unset, .unset, .unset]) rfl ?_
    show Steps p.tables e below (s₁.setTop (mkF m 7 #[.val (.int p0), .val (.int p1), .val (.int (1 : Int32)), .unset, .unset, .unset, .unset, .unset] [])) _
    refine XS.iloadN X0.here hx rfl (hb hby at_7) rfl ?_
    show Steps p.tables e below (s₁.setTop (mkF m 8 #[.val (.int p0), .val (.int p1), .val (.int (1 : Int32)), .unset, .unset, .unset, .unset, .unset] [(.int p1)])) _
    refine X0.ldcInt hx hown (mvT hZ (hw _ (List.mem_of_getElem? (i := 0) rfl))) (g := (mkF m 8 #[.val (.int p0), .val (.int p1), .val (.int (1 : Int32)), .unset, .unset, .unset, .unset, .unset] [(.int p1)])) rfl (hb hby at_8) _ ?_
    show Steps p.tables e below (s₁.setTop (mkF m 10 #[.val (.int p0), .val (.int p1), .val (.int (1 : Int32)), .unset, .unset, .unset, .unset, .unset] [(.int (2147483647 : Int32)), (.int p1)])) _
    refine XS.iand X0.here hx rfl (hb hby at_10) rfl ?_
    show Steps p.tables e below (s₁.setTop (mkF m 11 #[.val (.int p0), .val (.int p1), .val (.int (1 : Int32)), .unset, .unset, .unset, .unset, .unset] [(.int (p1 &&& (2147483647 : Int32)))])) _
    refine XS.iconst X0.here hx rfl (hb hby at_11) ?_
    show Steps p.tables e below (s₁.setTop (mkF m 12 #[.val (.int p0), .val (.int p1), .val (.int (1 : Int32)), .unset, .unset, .unset, .unset, .unset] [(.int (5 : Int32)), (.int (p1 &&& (2147483647 : Int32)))])) _
    refine iremM X0 hx rfl (hb hby at_12) rfl (by decide) ?_
    show Steps p.tables e below (s₁.setTop (mkF m 13 #[.val (.int p0), .val (.int p1), .val (.int (1 : Int32)), .unset, .unset, .unset, .unset, .unset] [(.int ((p1 &&& (2147483647 : Int32)) % (5 : Int32)))])) _
    rw [hk1]
    show Steps p.tables e below (s₁.setTop (mkF m 13 #[.val (.int p0), .val (.int p1), .val (.int (1 : Int32)), .unset, .unset, .unset, .unset, .unset] [(.int (4 : Int32))])) _
    refine XS.istoreN X0.here hx rfl (hb hby at_13) rfl (l' := #[.val (.int p0), .val (.int p1), .val (.int (1 : Int32)), .val (.int (4 : Int32)), .unset, .unset, .unset, .unset]) rfl ?_
    show Steps p.tables e below (s₁.setTop (mkF m 14 #[.val (.int p0), .val (.int p1), .val (.int (1 : Int32)), .val (.int (4 : Int32)), .unset, .unset, .unset, .unset] [])) _
    refine XS.iloadN X0.here hx rfl (hb hby at_14) rfl ?_
    show Steps p.tables e below (s₁.setTop (mkF m 15 #[.val (.int p0), .val (.int p1), .val (.int (1 : Int32)), .val (.int (4 : Int32)), .unset, .unset, .unset, .unset] [(.int (1 : Int32))])) _
    refine st1 _ ?_
    show Steps p.tables e below (T1.setTop (mkF m 18 #[.val (.int p0), .val (.int p1), .val (.int (1 : Int32)), .val (.int (4 : Int32)), .unset, .unset, .unset, .unset] [(.ref a_WRITE)])) _
    refine XS.astore X1.here hx rfl (hb hby at_18) rfl rfl (l' := #[.val (.int p0), .val (.int p1), .val (.int (1 : Int32)), .val (.int (4 : Int32)), .val (.ref a_WRITE), .unset, .unset, .unset]) rfl ?_
    show Steps p.tables e below (T1.setTop (mkF m 20 #[.val (.int p0), .val (.int p1), .val (.int (1 : Int32)), .val (.int (4 : Int32)), .val (.ref a_WRITE), .unset, .unset, .unset] [])) _
    refine XS.iloadN X1.here hx rfl (hb hby at_20) rfl ?_
    show Steps p.tables e below (T1.setTop (mkF m 21 #[.val (.int p0), .val (.int p1), .val (.int (1 : Int32)), .val (.int (4 : Int32)), .val (.ref a_WRITE), .unset, .unset, .unset] [(.int (4 : Int32))])) _
    refine st2 _ ?_
    show Steps p.tables e below (T2.setTop (mkF m 24 #[.val (.int p0), .val (.int p1), .val (.int (1 : Int32)), .val (.int (4 : Int32)), .val (.ref a_WRITE), .unset, .unset, .unset] [(.ref a_ABORT)])) _
    refine XS.astore X2.here hx rfl (hb hby at_24) rfl rfl (l' := #[.val (.int p0), .val (.int p1), .val (.int (1 : Int32)), .val (.int (4 : Int32)), .val (.ref a_WRITE), .val (.ref a_ABORT), .unset, .unset]) rfl ?_
    show Steps p.tables e below (T2.setTop (mkF m 26 #[.val (.int p0), .val (.int p1), .val (.int (1 : Int32)), .val (.int (4 : Int32)), .val (.ref a_WRITE), .val (.ref a_ABORT), .unset, .unset] [])) _
    refine st3 _ ?_
    show Steps p.tables e below (T3.setTop (mkF m 151 #[.val (.int p0), .val (.int p1), .val (.int (1 : Int32)), .val (.int (4 : Int32)), .val (.ref a_WRITE), .val (.ref a_ABORT), .val (.ref b3), .unset] [])) _
    refine XS.aload X3.here hx rfl (hb hby at_151) rfl rfl ?_
    show Steps p.tables e below (T3.setTop (mkF m 153 #[.val (.int p0), .val (.int p1), .val (.int (1 : Int32)), .val (.int (4 : Int32)), .val (.ref a_WRITE), .val (.ref a_ABORT), .val (.ref b3), .unset] [(.ref b3)])) _
    refine XS.iloadN X3.here hx rfl (hb hby at_153) rfl ?_
    show Steps p.tables e below (T3.setTop (mkF m 154 #[.val (.int p0), .val (.int p1), .val (.int (1 : Int32)), .val (.int (4 : Int32)), .val (.ref a_WRITE), .val (.ref a_ABORT), .val (.ref b3), .unset] [(.int (1 : Int32)), (.ref b3)])) _
    refine XS.iconst X3.here hx rfl (hb hby at_154) ?_
    show Steps p.tables e below (T3.setTop (mkF m 155 #[.val (.int p0), .val (.int p1), .val (.int (1 : Int32)), .val (.int (4 : Int32)), .val (.ref a_WRITE), .val (.ref a_ABORT), .val (.ref b3), .unset] [(.int (5 : Int32)), (.int (1 : Int32)), (.ref b3)])) _
    refine XS.imul X3.here hx rfl (hb hby at_155) rfl ?_
    show Steps p.tables e below (T3.setTop (mkF m 156 #[.val (.int p0), .val (.int p1), .val (.int (1 : Int32)), .val (.int (4 : Int32)), .val (.ref a_WRITE), .val (.ref a_ABORT), .val (.ref b3), .unset] [(.int ((1 : Int32) * (5 : Int32))), (.ref b3)])) _
    rw [(by decide : ((1 : Int32) * (5 : Int32)) = (5 : Int32))]
    show Steps p.tables e below (T3.setTop (mkF m 156 #[.val (.int p0), .val (.int p1), .val (.int (1 : Int32)), .val (.int (4 : Int32)), .val (.ref a_WRITE), .val (.ref a_ABORT), .val (.ref b3), .unset] [(.int (5 : Int32)), (.ref b3)])) _
    refine XS.iloadN X3.here hx rfl (hb hby at_156) rfl ?_
    show Steps p.tables e below (T3.setTop (mkF m 157 #[.val (.int p0), .val (.int p1), .val (.int (1 : Int32)), .val (.int (4 : Int32)), .val (.ref a_WRITE), .val (.ref a_ABORT), .val (.ref b3), .unset] [(.int (4 : Int32)), (.int (5 : Int32)), (.ref b3)])) _
    refine XS.iadd X3.here hx rfl (hb hby at_157) rfl ?_
    show Steps p.tables e below (T3.setTop (mkF m 158 #[.val (.int p0), .val (.int p1), .val (.int (1 : Int32)), .val (.int (4 : Int32)), .val (.ref a_WRITE), .val (.ref a_ABORT), .val (.ref b3), .unset] [(.int ((5 : Int32) + (4 : Int32))), (.ref b3)])) _
    rw [(by decide : ((5 : Int32) + (4 : Int32)) = (9 : Int32))]
    show Steps p.tables e below (T3.setTop (mkF m 158 #[.val (.int p0), .val (.int p1), .val (.int (1 : Int32)), .val (.int (4 : Int32)), .val (.ref a_WRITE), .val (.ref a_ABORT), .val (.ref b3), .unset] [(.int (9 : Int32)), (.ref b3)])) _
    refine X3.baloadBooleans hx (j := (9 : Int32)) (v := (.int (0 : Int32))) (by rw [e3]; exact r4.1) (State.isArrayOf_alike hZ.alike r4.2.1) r4.2.2 i4 y4 (g := (mkF m 158 #[.val (.int p0), .val (.int p1), .val (.int (1 : Int32)), .val (.int (4 : Int32)), .val (.ref a_WRITE), .val (.ref a_ABORT), .val (.ref b3), .unset] [(.int (9 : Int32)), (.ref b3)])) rfl rfl (hb hby at_158) _ ?_
    show Steps p.tables e below (T3.setTop (mkF m 159 #[.val (.int p0), .val (.int p1), .val (.int (1 : Int32)), .val (.int (4 : Int32)), .val (.ref a_WRITE), .val (.ref a_ABORT), .val (.ref b3), .unset] [(.int (0 : Int32))])) _
    refine XS.istore X3.here hx rfl (hb hby at_159) rfl (l' := #[.val (.int p0), .val (.int p1), .val (.int (1 : Int32)), .val (.int (4 : Int32)), .val (.ref a_WRITE), .val (.ref a_ABORT), .val (.ref b3), .val (.int (0 : Int32))]) rfl ?_
    show Steps p.tables e below (T3.setTop (mkF m 161 #[.val (.int p0), .val (.int p1), .val (.int (1 : Int32)), .val (.int (4 : Int32)), .val (.ref a_WRITE), .val (.ref a_ABORT), .val (.ref b3), .val (.int (0 : Int32))] [])) _
    refine XS.aload X3.here hx rfl (hb hby at_161) rfl rfl ?_
    show Steps p.tables e below (T3.setTop (mkF m 163 #[.val (.int p0), .val (.int p1), .val (.int (1 : Int32)), .val (.int (4 : Int32)), .val (.ref a_WRITE), .val (.ref a_ABORT), .val (.ref b3), .val (.int (0 : Int32))] [(.ref a_WRITE)])) _
    refine XS.aload X3.here hx rfl (hb hby at_163) rfl rfl ?_
    show Steps p.tables e below (T3.setTop (mkF m 165 #[.val (.int p0), .val (.int p1), .val (.int (1 : Int32)), .val (.int (4 : Int32)), .val (.ref a_WRITE), .val (.ref a_ABORT), .val (.ref b3), .val (.int (0 : Int32))] [(.ref a_ABORT), (.ref a_WRITE)])) _
    refine st5.trans ?_
    show Steps p.tables e below (T5.setTop (mkF m 168 #[.val (.int p0), .val (.int p1), .val (.int (1 : Int32)), .val (.int (4 : Int32)), .val (.ref a_WRITE), .val (.ref a_ABORT), .val (.ref b3), .val (.int (0 : Int32))] [(.int (0 : Int32))])) _
    refine XS.iload X5.here hx rfl (hb hby at_168) rfl ?_
    show Steps p.tables e below (T5.setTop (mkF m 170 #[.val (.int p0), .val (.int p1), .val (.int (1 : Int32)), .val (.int (4 : Int32)), .val (.ref a_WRITE), .val (.ref a_ABORT), .val (.ref b3), .val (.int (0 : Int32))] [(.int (0 : Int32)), (.int (0 : Int32))])) _
    refine XS.icmpNo X5.here hx rfl (hb hby at_170) rfl (by decide) ?_
    show Steps p.tables e below (T5.setTop (mkF m 173 #[.val (.int p0), .val (.int p1), .val (.int (1 : Int32)), .val (.int (4 : Int32)), .val (.ref a_WRITE), .val (.ref a_ABORT), .val (.ref b3), .val (.int (0 : Int32))] [])) _
    refine XS.iconst X5.here hx rfl (hb hby at_173) ?_
    show Steps p.tables e below (T5.setTop (mkF m 174 #[.val (.int p0), .val (.int p1), .val (.int (1 : Int32)), .val (.int (4 : Int32)), .val (.ref a_WRITE), .val (.ref a_ABORT), .val (.ref b3), .val (.int (0 : Int32))] [(.int (1 : Int32))])) _
    refine XS.goto X5.here hx rfl (pc0 := 174) (pc' := 178) rfl (hb hby at_174) (by decide) (by decide) ?_
    show Steps p.tables e below (T5.setTop (mkF m 178 #[.val (.int p0), .val (.int p1), .val (.int (1 : Int32)), .val (.int (4 : Int32)), .val (.ref a_WRITE), .val (.ref a_ABORT), .val (.ref b3), .val (.int (0 : Int32))] [(.int (1 : Int32))])) _
    exact retN X5 hx (t := .boolean) Bd.returns (by simp) (hb hby at_178) hr
  · exact ⟨rfl, N5⟩
set_option maxRecDepth 65536 in
set_option maxHeartbeats 40000000 in
theorem rm2_10 (l : Launch) (Z : State) (a0 : Array Value) (hw : ∀ d ∈ tables_1, d.before a0 Z = true) (ws : List Jvm.Cond) (p0 p1 : Int32) (a_READ a_COMMIT a_ABORT a_WRITE a_INCREMENT : Addr) (h0 : Heap) (n0 : Nat) (Z0 : n0 ≤ h0.size) (FF : Facts Z h0 a_READ a_COMMIT a_ABORT a_WRITE a_INCREMENT) :
    MetFree l (⟨"com/example/schedulock/schedulock/schedule/OperationKind", "conflictsWith", "(Lcom/example/schedulock/schedulock/schedule/OperationKind;)Z"⟩ : MethodName) (head1 (Jvm.Cond.code (⟨"com/example/schedulock/schedulock/schedule/OperationKind", "conflictsWith", "(Lcom/example/schedulock/schedulock/schedule/OperationKind;)Z"⟩ : MethodName) prog_31_method_5_code 2 (some .boolean) :: ws) ({ frames := 0, cells := 0, slots := 0, locals := 0 } : Room)) (fun a U => a = #[(.ref a_INCREMENT), (.ref a_READ)] ∧ Z.Warmed39 U.vm ∧ U.heap = h0) (fun _ _ _ _ _ => True) (fun _ U o U' => ∃ v L, o = .returned v ∧ own_Q (.int (1 : Int32)) h0 n0 v U'.heap L ∧ FrameEnd U o U' L ({ frames := 0, cells := 0, slots := 0, locals := 0 } : Room).cells ({ frames := 0, cells := 0, slots := 0, locals := 0 } : Room).slots) := by
  refine MetFree.of_bodySF (plainFor_of_name pn_2) hisR ?_
  intro p e s m args below meth c s₁ Bd hml0 hP hK
  obtain ⟨rfl, hZ, hh⟩ := hP
  have hx := Bd.exec
  have hby := Bd.bytes
  have hml : c.maxLocals = 2 := hml0
  have hown : s.vm.findClass "com/example/schedulock/schedulock/schedule/OperationKind" = some m.cls := findClass_of_methodNamed Bd.named
  have X0 : Stand p l e ({ frames := 0, cells := 0, slots := 0, locals := 0 } : Room) s m #[(.ref a_INCREMENT), (.ref a_READ)] below meth c s₁ [] 0 0 := Stand.of_body Bd
  have e0 : s₁.heap = h0 := by rw [← hh, Bd.state]; rfl
  have N0 := Fr.nil n0
  have pre0 : ∀ t, Steps p.tables e below (s₁.setTop (mkF m 0 #[.val (.ref a_INCREMENT), .val (.ref a_READ)] [])) t → Steps p.tables e below (s₁.setTop (entryFrame m #[(.ref a_INCREMENT), (.ref a_READ)] 2)) t := fun t k => castTop (ef_2 m a_INCREMENT a_READ) k
  obtain ⟨T1, X1, e1, st1⟩ := getF X0 hx hZ hown (host := "") (Or.inl (hw _ (List.mem_of_getElem? (i := 16) rfl))) Via.refl e0 (fx_F_INCREMENT_takesItem FF) (g := (mkF m 1 #[.val (.ref a_INCREMENT), .val (.ref a_READ)] [(.ref a_INCREMENT)])) rfl rfl (hb hby d2_1)
  obtain ⟨T2, X2, e2, st2⟩ := getF X1 hx hZ hown (host := "") (Or.inl (hw _ (List.mem_of_getElem? (i := 16) rfl))) Via.refl e1 (fx_F_READ_takesItem FF) (g := (mkF m 8 #[.val (.ref a_INCREMENT), .val (.ref a_READ)] [(.ref a_READ)])) rfl rfl (hb hby d2_8)
  obtain ⟨fs, hr, hrun, hended, hW, hsame⟩ := X2.leave (v := some (.int (1 : Int32))) (fun h => by rw [Bd.returns] at h; cases h)
  refine ⟨_, _, pre0 _ ?_, hrun, hended, _, _, rfl, ?_, ⟨_, rfl⟩, hW, hsame.mono (by decide) (by decide)⟩
  · show Steps p.tables e below (s₁.setTop (mkF m 0 #[.val (.ref a_INCREMENT), .val (.ref a_READ)] [])) _
    refine XS.aloadN X0.here hx rfl (hb hby d2_0) rfl rfl ?_
    show Steps p.tables e below (s₁.setTop (mkF m 1 #[.val (.ref a_INCREMENT), .val (.ref a_READ)] [(.ref a_INCREMENT)])) _
    refine st1 _ ?_
    show Steps p.tables e below (T1.setTop (mkF m 4 #[.val (.ref a_INCREMENT), .val (.ref a_READ)] [(.int (1 : Int32))])) _
    refine XS.ifNo X1.here hx rfl (hb hby d2_4) rfl (by decide) ?_
    show Steps p.tables e below (T1.setTop (mkF m 7 #[.val (.ref a_INCREMENT), .val (.ref a_READ)] [])) _
    refine XS.aloadN X1.here hx rfl (hb hby d2_7) rfl rfl ?_
    show Steps p.tables e below (T1.setTop (mkF m 8 #[.val (.ref a_INCREMENT), .val (.ref a_READ)] [(.ref a_READ)])) _
    refine st2 _ ?_
    show Steps p.tables e below (T2.setTop (mkF m 11 #[.val (.ref a_INCREMENT), .val (.ref a_READ)] [(.int (1 : Int32))])) _
    refine XS.ifNo X2.here hx rfl (hb hby d2_11) rfl (by decide) ?_
    show Steps p.tables e below (T2.setTop (mkF m 14 #[.val (.ref a_INCREMENT), .val (.ref a_READ)] [])) _
    refine XS.aloadN X2.here hx rfl (hb hby d2_14) rfl rfl ?_
    show Steps p.tables e below (T2.setTop (mkF m 15 #[.val (.ref a_INCREMENT), .val (.ref a_READ)] [(.ref a_INCREMENT)])) _
    refine XS.aloadN X2.here hx rfl (hb hby d2_15) rfl rfl ?_
    show Steps p.tables e below (T2.setTop (mkF m 16 #[.val (.ref a_INCREMENT), .val (.ref a_READ)] [(.ref a_READ), (.ref a_INCREMENT)])) _
    refine Jvm.RoadKit.acmp (g := (mkF m 16 #[.val (.ref a_INCREMENT), .val (.ref a_READ)] [(.ref a_READ), (.ref a_INCREMENT)])) X2 hx rfl rfl rfl (pc0 := 16) (pc' := 26) (same := false) rfl (hb hby d2_16) rfl (decide_eq_false fun q => Fld.ne (fx_F_INCREMENT_ordinal FF) (fx_F_READ_ordinal FF) (by decide) (Value.ref.inj q)) (by decide) (by decide) ?_
    show Steps p.tables e below (T2.setTop (mkF m 26 #[.val (.ref a_INCREMENT), .val (.ref a_READ)] [])) _
    refine XS.iconst X2.here hx rfl (hb hby d2_26) ?_
    show Steps p.tables e below (T2.setTop (mkF m 27 #[.val (.ref a_INCREMENT), .val (.ref a_READ)] [(.int (1 : Int32))])) _
    refine XS.goto X2.here hx rfl (pc0 := 27) (pc' := 31) rfl (hb hby d2_27) (by decide) (by decide) ?_
    show Steps p.tables e below (T2.setTop (mkF m 31 #[.val (.ref a_INCREMENT), .val (.ref a_READ)] [(.int (1 : Int32))])) _
    exact retN X2 hx (t := .boolean) Bd.returns (by simp) (hb hby d2_31) hr
  · show own_Q _ _ _ _ T2.heap _
    exact ⟨rfl, N0, e2⟩
set_option maxRecDepth 65536 in
set_option maxHeartbeats 40000000 in
theorem rm0_10 (l : Launch) (Z : State) (a0 : Array Value) (hw : ∀ d ∈ tables_1, d.before a0 Z = true) (ws : List Jvm.Cond) (p0 p1 : Int32) (a_READ a_COMMIT a_ABORT a_WRITE a_INCREMENT : Addr) (h0 : Heap) (n0 : Nat) (Z0 : n0 ≤ h0.size) (FF : Facts Z h0 a_READ a_COMMIT a_ABORT a_WRITE a_INCREMENT) (hk0 : ((p0 &&& (2147483647 : Int32)) % (5 : Int32)) = (2 : Int32)) (hk1 : ((p1 &&& (2147483647 : Int32)) % (5 : Int32)) = (0 : Int32)) :
    MetFree l x (head1 (Jvm.Cond.code x code maxLocals ret :: ws) room_1) (fun a U => a = #[(.int p0), (.int p1)] ∧ Z.Warmed39 U.vm ∧ U.heap = h0) (fun _ _ _ _ _ => True) (fun _ U o U' => ∃ v L, o = .returned v ∧ (v = some (.int (1 : Int32)) ∧ Fr n0 L) ∧ FrameEnd U o U' L room_1.cells room_1.slots) := by
  refine MetFree.of_bodySF (plainFor_of_name pn_0) hisR ?_
  intro p e s m args below meth c s₁ Bd hml0 hP hK
  obtain ⟨rfl, hZ, hh⟩ := hP
  have hx := Bd.exec
  have hby := Bd.bytes
  have hml : c.maxLocals = 8 := hml0
  have hown : s.vm.findClass "com/example/schedulock/schedulock/schedule/OperationKindConflictsWithPinLaw" = some m.cls := findClass_of_methodNamed Bd.named
  have X0 : Stand p l e room_1 s m #[(.int p0), (.int p1)] below meth c s₁ [] 0 0 := Stand.of_body Bd
  have e0 : s₁.heap = h0 := by rw [← hh, Bd.state]; rfl
  have N0 := Fr.nil n0
  have pre0 : ∀ t, Steps p.tables e below (s₁.setTop (mkF m 0 #[.val (.int p0), .val (.int p1), .unset, .unset, .unset, .unset, .unset, .unset] [])) t → Steps p.tables e below (s₁.setTop (entryFrame m #[(.int p0), (.int p1)] maxLocals)) t := fun t k => castTop (ef_0 m p0 p1) k
  obtain ⟨_, _, ⟨T1, L1, k1, n1⟩, -, X1, ⟨Lc1, hQ1, l1, y1, z1⟩, st1⟩ := Jvm.LawKit.callS X0 hx (y := (⟨"com/example/schedulock/schedulock/schedule/OperationKindConflictsWithPinLaw", "kind", "(I)Lcom/example/schedulock/schedulock/schedule/OperationKind;"⟩ : MethodName)) hown (mvT hZ (hw _ (List.mem_of_getElem? (i := 1) rfl))) (mvT hZ (hw _ (List.mem_of_getElem? (i := 2) rfl))) (mvT hZ (hw _ (List.mem_of_getElem? (i := 3) rfl))) (mvT hZ (hw _ (List.mem_of_getElem? (i := 4) rfl))) (by decide) (backOf (W := 0) (rm1_2 l Z a0 hw [] p0 p1 a_READ a_COMMIT a_ABORT a_WRITE a_INCREMENT h0 n0 (Nat.le_trans Z0 (Nat.le_refl _)) FF) hZ (hw _ (List.mem_of_getElem? (i := 4) rfl)) (hw _ (List.mem_of_getElem? (i := 3) rfl)) (by decide) (by decide)) (g := (mkF m 15 #[.val (.int p0), .val (.int p1), .val (.int (2 : Int32)), .val (.int (0 : Int32)), .unset, .unset, .unset, .unset] [(.int (2 : Int32))])) rfl (by rw [hml]; rfl) (argsL := [(.int (2 : Int32))]) (rest := []) (lenOf pd_0 rfl) rfl (by show 2 * 0 + _ ≤ _; exact Nat.le_of_eq rfl) (hb hby at_15) (fun _ _ => ⟨rfl, e0, (by decide : 0 + 0 ≤ _), (by decide : 0 + 0 ≤ _)⟩)
  dsimp only [Pt.U, Pt.locs, Pt.cells, Pt.slots] at X1 l1 y1 z1 st1 hQ1
  subst l1 y1 z1
  obtain ⟨rfl, N1q, e1⟩ := hQ1
  have N1 := Fr.app N0 N1q
  obtain ⟨_, _, ⟨T2, L2, k2, n2⟩, -, X2, ⟨Lc2, hQ2, l2, y2, z2⟩, st2⟩ := Jvm.LawKit.callS X1 hx (y := (⟨"com/example/schedulock/schedulock/schedule/OperationKindConflictsWithPinLaw", "kind", "(I)Lcom/example/schedulock/schedulock/schedule/OperationKind;"⟩ : MethodName)) hown (mvT hZ (hw _ (List.mem_of_getElem? (i := 1) rfl))) (mvT hZ (hw _ (List.mem_of_getElem? (i := 2) rfl))) (mvT hZ (hw _ (List.mem_of_getElem? (i := 3) rfl))) (mvT hZ (hw _ (List.mem_of_getElem? (i := 4) rfl))) (by decide) (backOf (W := 0) (rm1_0 l Z a0 hw [] p0 p1 a_READ a_COMMIT a_ABORT a_WRITE a_INCREMENT h0 n0 (Nat.le_trans Z0 (Nat.le_refl _)) FF) hZ (hw _ (List.mem_of_getElem? (i := 4) rfl)) (hw _ (List.mem_of_getElem? (i := 3) rfl)) (by decide) (by decide)) (g := (mkF m 21 #[.val (.int p0), .val (.int p1), .val (.int (2 : Int32)), .val (.int (0 : Int32)), .val (.ref a_INCREMENT), .unset, .unset, .unset] [(.int (0 : Int32))])) rfl (by rw [hml]; rfl) (argsL := [(.int (0 : Int32))]) (rest := []) (lenOf pd_0 rfl) rfl (by show 2 * 0 + _ ≤ _; exact Nat.le_of_eq rfl) (hb hby at_21) (fun _ _ => ⟨rfl, e1, (by decide : 0 + 0 ≤ _), (by decide : 0 + 0 ≤ _)⟩)
  dsimp only [Pt.U, Pt.locs, Pt.cells, Pt.slots] at X2 l2 y2 z2 st2 hQ2
  subst l2 y2 z2
  obtain ⟨rfl, N2q, e2⟩ := hQ2
  have N2 := Fr.app N1 N2q
  obtain ⟨T3, h3, b3, k3, lc3, X3, e3, s_b3, z3, N3, FF3, V3, st3⟩ := seg_0 (l := l) (Z := Z) hw a_READ a_COMMIT a_ABORT a_WRITE a_INCREMENT p0 p1 (2 : Int32) (0 : Int32) a_INCREMENT a_READ X2 hx hZ hby hml hown e2 Z0 N2 FF
  obtain ⟨c4, r4, -, S4, -, H4, -⟩ := V3
  have i4 : ¬ ((10 : Int32) < 0 ∨ c4.slots.size ≤ ((10 : Int32)).toNatClampNeg) := inb_of S4 ⟨by decide, by decide⟩
  have y4 : c4.slots[((10 : Int32)).toNatClampNeg]? = some (.int (1 : Int32)) := H4 10 (by rw [S4]; decide)
  obtain ⟨cq5, kq5, q5a, q5b, q5c⟩ := isOf hZ e3 (fx_E_INCREMENT FF3)
  obtain ⟨_, _, ⟨T5, L5, k5, n5⟩, -, X5, ⟨Lc5, hQ5, l5, y5, z5⟩, st5⟩ := X3.virtualBack hx (y := (⟨"com/example/schedulock/schedulock/schedule/OperationKind", "conflictsWith", "(Lcom/example/schedulock/schedulock/schedule/OperationKind;)Z"⟩ : MethodName)) (z := (⟨"com/example/schedulock/schedulock/schedule/OperationKind", "conflictsWith", "(Lcom/example/schedulock/schedulock/schedule/OperationKind;)Z"⟩ : MethodName)) hown (mvT hZ (hw _ (List.mem_of_getElem? (i := 11) rfl))) (mvT hZ (hw _ (List.mem_of_getElem? (i := 12) rfl))) (notFace_of_selects (args := #[]) (mvT hZ (hw _ (List.mem_of_getElem? (i := 14) rfl)))) (mvT hZ (hw _ (List.mem_of_getElem? (i := 14) rfl))) (mvT hZ (hw _ (List.mem_of_getElem? (i := 13) rfl))) (by decide) (backOf (W := 0) (rm2_10 l Z a0 hw [] p0 p1 a_READ a_COMMIT a_ABORT a_WRITE a_INCREMENT h3 n0 (Nat.le_trans Z0 z3) FF3) hZ (hw _ (List.mem_of_getElem? (i := 15) rfl)) (hw _ (List.mem_of_getElem? (i := 6) rfl)) (by decide) (by decide)) q5a q5c (g := (mkF m 165 #[.val (.int p0), .val (.int p1), .val (.int (2 : Int32)), .val (.int (0 : Int32)), .val (.ref a_INCREMENT), .val (.ref a_READ), .val (.ref b3), .val (.int (1 : Int32))] [(.ref a_READ), (.ref a_INCREMENT)])) rfl (by rw [hml]; rfl) (Steps.refl _) (argsL := [(.ref a_READ)]) (rest := []) (lenOf pd_1 rfl) rfl (by show 2 * 0 + _ ≤ _; exact Nat.le_of_eq rfl) (hb hby at_165) (fun _ _ => ⟨rfl, e3, (by decide : 1 + 0 ≤ _), (by decide : 25 + 0 ≤ _)⟩)
  dsimp only [Pt.U, Pt.locs, Pt.cells, Pt.slots] at X5 l5 y5 z5 st5 hQ5
  subst l5 y5 z5
  obtain ⟨rfl, N5q, e5⟩ := hQ5
  have N5 := Fr.app N3 N5q
  obtain ⟨fs, hr, hrun, hended, hW, hsame⟩ := X5.leave (v := some (.int (1 : Int32))) (fun h => by rw [Bd.returns] at h; cases h)
  refine ⟨_, _, pre0 _ ?_, hrun, hended, _, _, rfl, ?_, ⟨_, rfl⟩, hW, hsame.mono (by decide) (by decide)⟩
  · show Steps p.tables e below (s₁.setTop (mkF m 0 #[.val (.int p0), .val (.int p1), .unset, .unset, .unset, .unset, .unset, .unset] [])) _
    refine XS.iloadN X0.here hx rfl (hb hby at_0) rfl ?_
    show Steps p.tables e below (s₁.setTop (mkF m 1 #[.val (.int p0), .val (.int p1), .unset, .unset, .unset, .unset, .unset, .unset] [(.int p0)])) _
    refine X0.ldcInt hx hown (mvT hZ (hw _ (List.mem_of_getElem? (i := 0) rfl))) (g := (mkF m 1 #[.val (.int p0), .val (.int p1), .unset, .unset, .unset, .unset, .unset, .unset] [(.int p0)])) rfl (hb hby at_1) _ ?_
    show Steps p.tables e below (s₁.setTop (mkF m 3 #[.val (.int p0), .val (.int p1), .unset, .unset, .unset, .unset, .unset, .unset] [(.int (2147483647 : Int32)), (.int p0)])) _
    refine XS.iand X0.here hx rfl (hb hby at_3) rfl ?_
    show Steps p.tables e below (s₁.setTop (mkF m 4 #[.val (.int p0), .val (.int p1), .unset, .unset, .unset, .unset, .unset, .unset] [(.int (p0 &&& (2147483647 : Int32)))])) _
    refine XS.iconst X0.here hx rfl (hb hby at_4) ?_
    show Steps p.tables e below (s₁.setTop (mkF m 5 #[.val (.int p0), .val (.int p1), .unset, .unset, .unset, .unset, .unset, .unset] [(.int (5 : Int32)), (.int (p0 &&& (2147483647 : Int32)))])) _
    refine iremM X0 hx rfl (hb hby at_5) rfl (by decide) ?_
    show Steps p.tables e below (s₁.setTop (mkF m 6 #[.val (.int p0), .val (.int p1), .unset, .unset, .unset, .unset, .unset, .unset] [(.int ((p0 &&& (2147483647 : Int32)) % (5 : Int32)))])) _
    rw [hk0]
    show Steps p.tables e below (s₁.setTop (mkF m 6 #[.val (.int p0), .val (.int p1), .unset, .unset, .unset, .unset, .unset, .unset] [(.int (2 : Int32))])) _
    refine XS.istoreN X0.here hx rfl (hb hby at_6) rfl (l' := #[.val (.int p0), .val (.int p1), .val (.int (2 : Int32)), .unset, .unset, .unset, .unset, .unset]) rfl ?_
    show Steps p.tables e below (s₁.setTop (mkF m 7 #[.val (.int p0), .val (.int p1), .val (.int (2 : Int32)), .unset, .unset, .unset, .unset, .unset] [])) _
    refine XS.iloadN X0.here hx rfl (hb hby at_7) rfl ?_
    show Steps p.tables e below (s₁.setTop (mkF m 8 #[.val (.int p0), .val (.int p1), .val (.int (2 : Int32)), .unset, .unset, .unset, .unset, .unset] [(.int p1)])) _
    refine X0.ldcInt hx hown (mvT hZ (hw _ (List.mem_of_getElem? (i := 0) rfl))) (g := (mkF m 8 #[.val (.int p0), .val (.int p1), .val (.int (2 : Int32)), .unset, .unset, .unset, .unset, .unset] [(.int p1)])) rfl (hb hby at_8) _ ?_
    show Steps p.tables e below (s₁.setTop (mkF m 10 #[.val (.int p0), .val (.int p1), .val (.int (2 : Int32)), .unset, .unset, .unset, .unset, .unset] [(.int (2147483647 : Int32)), (.int p1)])) _
    refine XS.iand X0.here hx rfl (hb hby at_10) rfl ?_
    show Steps p.tables e below (s₁.setTop (mkF m 11 #[.val (.int p0), .val (.int p1), .val (.int (2 : Int32)), .unset, .unset, .unset, .unset, .unset] [(.int (p1 &&& (2147483647 : Int32)))])) _
    refine XS.iconst X0.here hx rfl (hb hby at_11) ?_
    show Steps p.tables e below (s₁.setTop (mkF m 12 #[.val (.int p0), .val (.int p1), .val (.int (2 : Int32)), .unset, .unset, .unset, .unset, .unset] [(.int (5 : Int32)), (.int (p1 &&& (2147483647 : Int32)))])) _
    refine iremM X0 hx rfl (hb hby at_12) rfl (by decide) ?_
    show Steps p.tables e below (s₁.setTop (mkF m 13 #[.val (.int p0), .val (.int p1), .val (.int (2 : Int32)), .unset, .unset, .unset, .unset, .unset] [(.int ((p1 &&& (2147483647 : Int32)) % (5 : Int32)))])) _
    rw [hk1]
    show Steps p.tables e below (s₁.setTop (mkF m 13 #[.val (.int p0), .val (.int p1), .val (.int (2 : Int32)), .unset, .unset, .unset, .unset, .unset] [(.int (0 : Int32))])) _
    refine XS.istoreN X0.here hx rfl (hb hby at_13) rfl (l' := #[.val (.int p0), .val (.int p1), .val (.int (2 : Int32)), .val (.int (0 : Int32)), .unset, .unset, .unset, .unset]) rfl ?_
    show Steps p.tables e below (s₁.setTop (mkF m 14 #[.val (.int p0), .val (.int p1), .val (.int (2 : Int32)), .val (.int (0 : Int32)), .unset, .unset, .unset, .unset] [])) _
    refine XS.iloadN X0.here hx rfl (hb hby at_14) rfl ?_
    show Steps p.tables e below (s₁.setTop (mkF m 15 #[.val (.int p0), .val (.int p1), .val (.int (2 : Int32)), .val (.int (0 : Int32)), .unset, .unset, .unset, .unset] [(.int (2 : Int32))])) _
    refine st1 _ ?_
    show Steps p.tables e below (T1.setTop (mkF m 18 #[.val (.int p0), .val (.int p1), .val (.int (2 : Int32)), .val (.int (0 : Int32)), .unset, .unset, .unset, .unset] [(.ref a_INCREMENT)])) _
    refine XS.astore X1.here hx rfl (hb hby at_18) rfl rfl (l' := #[.val (.int p0), .val (.int p1), .val (.int (2 : Int32)), .val (.int (0 : Int32)), .val (.ref a_INCREMENT), .unset, .unset, .unset]) rfl ?_
    show Steps p.tables e below (T1.setTop (mkF m 20 #[.val (.int p0), .val (.int p1), .val (.int (2 : Int32)), .val (.int (0 : Int32)), .val (.ref a_INCREMENT), .unset, .unset, .unset] [])) _
    refine XS.iloadN X1.here hx rfl (hb hby at_20) rfl ?_
    show Steps p.tables e below (T1.setTop (mkF m 21 #[.val (.int p0), .val (.int p1), .val (.int (2 : Int32)), .val (.int (0 : Int32)), .val (.ref a_INCREMENT), .unset, .unset, .unset] [(.int (0 : Int32))])) _
    refine st2 _ ?_
    show Steps p.tables e below (T2.setTop (mkF m 24 #[.val (.int p0), .val (.int p1), .val (.int (2 : Int32)), .val (.int (0 : Int32)), .val (.ref a_INCREMENT), .unset, .unset, .unset] [(.ref a_READ)])) _
    refine XS.astore X2.here hx rfl (hb hby at_24) rfl rfl (l' := #[.val (.int p0), .val (.int p1), .val (.int (2 : Int32)), .val (.int (0 : Int32)), .val (.ref a_INCREMENT), .val (.ref a_READ), .unset, .unset]) rfl ?_
    show Steps p.tables e below (T2.setTop (mkF m 26 #[.val (.int p0), .val (.int p1), .val (.int (2 : Int32)), .val (.int (0 : Int32)), .val (.ref a_INCREMENT), .val (.ref a_READ), .unset, .unset] [])) _
    refine st3 _ ?_
    show Steps p.tables e below (T3.setTop (mkF m 151 #[.val (.int p0), .val (.int p1), .val (.int (2 : Int32)), .val (.int (0 : Int32)), .val (.ref a_INCREMENT), .val (.ref a_READ), .val (.ref b3), .unset] [])) _
    refine XS.aload X3.here hx rfl (hb hby at_151) rfl rfl ?_
    show Steps p.tables e below (T3.setTop (mkF m 153 #[.val (.int p0), .val (.int p1), .val (.int (2 : Int32)), .val (.int (0 : Int32)), .val (.ref a_INCREMENT), .val (.ref a_READ), .val (.ref b3), .unset] [(.ref b3)])) _
    refine XS.iloadN X3.here hx rfl (hb hby at_153) rfl ?_
    show Steps p.tables e below (T3.setTop (mkF m 154 #[.val (.int p0), .val (.int p1), .val (.int (2 : Int32)), .val (.int (0 : Int32)), .val (.ref a_INCREMENT), .val (.ref a_READ), .val (.ref b3), .unset] [(.int (2 : Int32)), (.ref b3)])) _
    refine XS.iconst X3.here hx rfl (hb hby at_154) ?_
    show Steps p.tables e below (T3.setTop (mkF m 155 #[.val (.int p0), .val (.int p1), .val (.int (2 : Int32)), .val (.int (0 : Int32)), .val (.ref a_INCREMENT), .val (.ref a_READ), .val (.ref b3), .unset] [(.int (5 : Int32)), (.int (2 : Int32)), (.ref b3)])) _
    refine XS.imul X3.here hx rfl (hb hby at_155) rfl ?_
    show Steps p.tables e below (T3.setTop (mkF m 156 #[.val (.int p0), .val (.int p1), .val (.int (2 : Int32)), .val (.int (0 : Int32)), .val (.ref a_INCREMENT), .val (.ref a_READ), .val (.ref b3), .unset] [(.int ((2 : Int32) * (5 : Int32))), (.ref b3)])) _
    rw [(by decide : ((2 : Int32) * (5 : Int32)) = (10 : Int32))]
    show Steps p.tables e below (T3.setTop (mkF m 156 #[.val (.int p0), .val (.int p1), .val (.int (2 : Int32)), .val (.int (0 : Int32)), .val (.ref a_INCREMENT), .val (.ref a_READ), .val (.ref b3), .unset] [(.int (10 : Int32)), (.ref b3)])) _
    refine XS.iloadN X3.here hx rfl (hb hby at_156) rfl ?_
    show Steps p.tables e below (T3.setTop (mkF m 157 #[.val (.int p0), .val (.int p1), .val (.int (2 : Int32)), .val (.int (0 : Int32)), .val (.ref a_INCREMENT), .val (.ref a_READ), .val (.ref b3), .unset] [(.int (0 : Int32)), (.int (10 : Int32)), (.ref b3)])) _
    refine XS.iadd X3.here hx rfl (hb hby at_157) rfl ?_
    show Steps p.tables e below (T3.setTop (mkF m 158 #[.val (.int p0), .val (.int p1), .val (.int (2 : Int32)), .val (.int (0 : Int32)), .val (.ref a_INCREMENT), .val (.ref a_READ), .val (.ref b3), .unset] [(.int ((10 : Int32) + (0 : Int32))), (.ref b3)])) _
    rw [(by decide : ((10 : Int32) + (0 : Int32)) = (10 : Int32))]
    show Steps p.tables e below (T3.setTop (mkF m 158 #[.val (.int p0), .val (.int p1), .val (.int (2 : Int32)), .val (.int (0 : Int32)), .val (.ref a_INCREMENT), .val (.ref a_READ), .val (.ref b3), .unset] [(.int (10 : Int32)), (.ref b3)])) _
    refine X3.baloadBooleans hx (j := (10 : Int32)) (v := (.int (1 : Int32))) (by rw [e3]; exact r4.1) (State.isArrayOf_alike hZ.alike r4.2.1) r4.2.2 i4 y4 (g := (mkF m 158 #[.val (.int p0), .val (.int p1), .val (.int (2 : Int32)), .val (.int (0 : Int32)), .val (.ref a_INCREMENT), .val (.ref a_READ), .val (.ref b3), .unset] [(.int (10 : Int32)), (.ref b3)])) rfl rfl (hb hby at_158) _ ?_
    show Steps p.tables e below (T3.setTop (mkF m 159 #[.val (.int p0), .val (.int p1), .val (.int (2 : Int32)), .val (.int (0 : Int32)), .val (.ref a_INCREMENT), .val (.ref a_READ), .val (.ref b3), .unset] [(.int (1 : Int32))])) _
    refine XS.istore X3.here hx rfl (hb hby at_159) rfl (l' := #[.val (.int p0), .val (.int p1), .val (.int (2 : Int32)), .val (.int (0 : Int32)), .val (.ref a_INCREMENT), .val (.ref a_READ), .val (.ref b3), .val (.int (1 : Int32))]) rfl ?_
    show Steps p.tables e below (T3.setTop (mkF m 161 #[.val (.int p0), .val (.int p1), .val (.int (2 : Int32)), .val (.int (0 : Int32)), .val (.ref a_INCREMENT), .val (.ref a_READ), .val (.ref b3), .val (.int (1 : Int32))] [])) _
    refine XS.aload X3.here hx rfl (hb hby at_161) rfl rfl ?_
    show Steps p.tables e below (T3.setTop (mkF m 163 #[.val (.int p0), .val (.int p1), .val (.int (2 : Int32)), .val (.int (0 : Int32)), .val (.ref a_INCREMENT), .val (.ref a_READ), .val (.ref b3), .val (.int (1 : Int32))] [(.ref a_INCREMENT)])) _
    refine XS.aload X3.here hx rfl (hb hby at_163) rfl rfl ?_
    show Steps p.tables e below (T3.setTop (mkF m 165 #[.val (.int p0), .val (.int p1), .val (.int (2 : Int32)), .val (.int (0 : Int32)), .val (.ref a_INCREMENT), .val (.ref a_READ), .val (.ref b3), .val (.int (1 : Int32))] [(.ref a_READ), (.ref a_INCREMENT)])) _
    refine st5.trans ?_
    show Steps p.tables e below (T5.setTop (mkF m 168 #[.val (.int p0), .val (.int p1), .val (.int (2 : Int32)), .val (.int (0 : Int32)), .val (.ref a_INCREMENT), .val (.ref a_READ), .val (.ref b3), .val (.int (1 : Int32))] [(.int (1 : Int32))])) _
    refine XS.iload X5.here hx rfl (hb hby at_168) rfl ?_
    show Steps p.tables e below (T5.setTop (mkF m 170 #[.val (.int p0), .val (.int p1), .val (.int (2 : Int32)), .val (.int (0 : Int32)), .val (.ref a_INCREMENT), .val (.ref a_READ), .val (.ref b3), .val (.int (1 : Int32))] [(.int (1 : Int32)), (.int (1 : Int32))])) _
    refine XS.icmpNo X5.here hx rfl (hb hby at_170) rfl (by decide) ?_
    show Steps p.tables e below (T5.setTop (mkF m 173 #[.val (.int p0), .val (.int p1), .val (.int (2 : Int32)), .val (.int (0 : Int32)), .val (.ref a_INCREMENT), .val (.ref a_READ), .val (.ref b3), .val (.int (1 : Int32))] [])) _
    refine XS.iconst X5.here hx rfl (hb hby at_173) ?_
    show Steps p.tables e below (T5.setTop (mkF m 174 #[.val (.int p0), .val (.int p1), .val (.int (2 : Int32)), .val (.int (0 : Int32)), .val (.ref a_INCREMENT), .val (.ref a_READ), .val (.ref b3), .val (.int (1 : Int32))] [(.int (1 : Int32))])) _
    refine XS.goto X5.here hx rfl (pc0 := 174) (pc' := 178) rfl (hb hby at_174) (by decide) (by decide) ?_
    show Steps p.tables e below (T5.setTop (mkF m 178 #[.val (.int p0), .val (.int p1), .val (.int (2 : Int32)), .val (.int (0 : Int32)), .val (.ref a_INCREMENT), .val (.ref a_READ), .val (.ref b3), .val (.int (1 : Int32))] [(.int (1 : Int32))])) _
    exact retN X5 hx (t := .boolean) Bd.returns (by simp) (hb hby at_178) hr
  · exact ⟨rfl, N5⟩
set_option maxRecDepth 65536 in
set_option maxHeartbeats 40000000 in
theorem rm2_11 (l : Launch) (Z : State) (a0 : Array Value) (hw : ∀ d ∈ tables_1, d.before a0 Z = true) (ws : List Jvm.Cond) (p0 p1 : Int32) (a_READ a_COMMIT a_ABORT a_WRITE a_INCREMENT : Addr) (h0 : Heap) (n0 : Nat) (Z0 : n0 ≤ h0.size) (FF : Facts Z h0 a_READ a_COMMIT a_ABORT a_WRITE a_INCREMENT) :
    MetFree l (⟨"com/example/schedulock/schedulock/schedule/OperationKind", "conflictsWith", "(Lcom/example/schedulock/schedulock/schedule/OperationKind;)Z"⟩ : MethodName) (head1 (Jvm.Cond.code (⟨"com/example/schedulock/schedulock/schedule/OperationKind", "conflictsWith", "(Lcom/example/schedulock/schedulock/schedule/OperationKind;)Z"⟩ : MethodName) prog_31_method_5_code 2 (some .boolean) :: ws) ({ frames := 0, cells := 0, slots := 0, locals := 0 } : Room)) (fun a U => a = #[(.ref a_INCREMENT), (.ref a_WRITE)] ∧ Z.Warmed39 U.vm ∧ U.heap = h0) (fun _ _ _ _ _ => True) (fun _ U o U' => ∃ v L, o = .returned v ∧ own_Q (.int (1 : Int32)) h0 n0 v U'.heap L ∧ FrameEnd U o U' L ({ frames := 0, cells := 0, slots := 0, locals := 0 } : Room).cells ({ frames := 0, cells := 0, slots := 0, locals := 0 } : Room).slots) := by
  refine MetFree.of_bodySF (plainFor_of_name pn_2) hisR ?_
  intro p e s m args below meth c s₁ Bd hml0 hP hK
  obtain ⟨rfl, hZ, hh⟩ := hP
  have hx := Bd.exec
  have hby := Bd.bytes
  have hml : c.maxLocals = 2 := hml0
  have hown : s.vm.findClass "com/example/schedulock/schedulock/schedule/OperationKind" = some m.cls := findClass_of_methodNamed Bd.named
  have X0 : Stand p l e ({ frames := 0, cells := 0, slots := 0, locals := 0 } : Room) s m #[(.ref a_INCREMENT), (.ref a_WRITE)] below meth c s₁ [] 0 0 := Stand.of_body Bd
  have e0 : s₁.heap = h0 := by rw [← hh, Bd.state]; rfl
  have N0 := Fr.nil n0
  have pre0 : ∀ t, Steps p.tables e below (s₁.setTop (mkF m 0 #[.val (.ref a_INCREMENT), .val (.ref a_WRITE)] [])) t → Steps p.tables e below (s₁.setTop (entryFrame m #[(.ref a_INCREMENT), (.ref a_WRITE)] 2)) t := fun t k => castTop (ef_2 m a_INCREMENT a_WRITE) k
  obtain ⟨T1, X1, e1, st1⟩ := getF X0 hx hZ hown (host := "") (Or.inl (hw _ (List.mem_of_getElem? (i := 16) rfl))) Via.refl e0 (fx_F_INCREMENT_takesItem FF) (g := (mkF m 1 #[.val (.ref a_INCREMENT), .val (.ref a_WRITE)] [(.ref a_INCREMENT)])) rfl rfl (hb hby d2_1)
  obtain ⟨T2, X2, e2, st2⟩ := getF X1 hx hZ hown (host := "") (Or.inl (hw _ (List.mem_of_getElem? (i := 16) rfl))) Via.refl e1 (fx_F_WRITE_takesItem FF) (g := (mkF m 8 #[.val (.ref a_INCREMENT), .val (.ref a_WRITE)] [(.ref a_WRITE)])) rfl rfl (hb hby d2_8)
  obtain ⟨fs, hr, hrun, hended, hW, hsame⟩ := X2.leave (v := some (.int (1 : Int32))) (fun h => by rw [Bd.returns] at h; cases h)
  refine ⟨_, _, pre0 _ ?_, hrun, hended, _, _, rfl, ?_, ⟨_, rfl⟩, hW, hsame.mono (by decide) (by decide)⟩
  · show Steps p.tables e below (s₁.setTop (mkF m 0 #[.val (.ref a_INCREMENT), .val (.ref a_WRITE)] [])) _
    refine XS.aloadN X0.here hx rfl (hb hby d2_0) rfl rfl ?_
    show Steps p.tables e below (s₁.setTop (mkF m 1 #[.val (.ref a_INCREMENT), .val (.ref a_WRITE)] [(.ref a_INCREMENT)])) _
    refine st1 _ ?_
    show Steps p.tables e below (T1.setTop (mkF m 4 #[.val (.ref a_INCREMENT), .val (.ref a_WRITE)] [(.int (1 : Int32))])) _
    refine XS.ifNo X1.here hx rfl (hb hby d2_4) rfl (by decide) ?_
    show Steps p.tables e below (T1.setTop (mkF m 7 #[.val (.ref a_INCREMENT), .val (.ref a_WRITE)] [])) _
    refine XS.aloadN X1.here hx rfl (hb hby d2_7) rfl rfl ?_
    show Steps p.tables e below (T1.setTop (mkF m 8 #[.val (.ref a_INCREMENT), .val (.ref a_WRITE)] [(.ref a_WRITE)])) _
    refine st2 _ ?_
    show Steps p.tables e below (T2.setTop (mkF m 11 #[.val (.ref a_INCREMENT), .val (.ref a_WRITE)] [(.int (1 : Int32))])) _
    refine XS.ifNo X2.here hx rfl (hb hby d2_11) rfl (by decide) ?_
    show Steps p.tables e below (T2.setTop (mkF m 14 #[.val (.ref a_INCREMENT), .val (.ref a_WRITE)] [])) _
    refine XS.aloadN X2.here hx rfl (hb hby d2_14) rfl rfl ?_
    show Steps p.tables e below (T2.setTop (mkF m 15 #[.val (.ref a_INCREMENT), .val (.ref a_WRITE)] [(.ref a_INCREMENT)])) _
    refine XS.aloadN X2.here hx rfl (hb hby d2_15) rfl rfl ?_
    show Steps p.tables e below (T2.setTop (mkF m 16 #[.val (.ref a_INCREMENT), .val (.ref a_WRITE)] [(.ref a_WRITE), (.ref a_INCREMENT)])) _
    refine Jvm.RoadKit.acmp (g := (mkF m 16 #[.val (.ref a_INCREMENT), .val (.ref a_WRITE)] [(.ref a_WRITE), (.ref a_INCREMENT)])) X2 hx rfl rfl rfl (pc0 := 16) (pc' := 26) (same := false) rfl (hb hby d2_16) rfl (decide_eq_false fun q => Fld.ne (fx_F_INCREMENT_ordinal FF) (fx_F_WRITE_ordinal FF) (by decide) (Value.ref.inj q)) (by decide) (by decide) ?_
    show Steps p.tables e below (T2.setTop (mkF m 26 #[.val (.ref a_INCREMENT), .val (.ref a_WRITE)] [])) _
    refine XS.iconst X2.here hx rfl (hb hby d2_26) ?_
    show Steps p.tables e below (T2.setTop (mkF m 27 #[.val (.ref a_INCREMENT), .val (.ref a_WRITE)] [(.int (1 : Int32))])) _
    refine XS.goto X2.here hx rfl (pc0 := 27) (pc' := 31) rfl (hb hby d2_27) (by decide) (by decide) ?_
    show Steps p.tables e below (T2.setTop (mkF m 31 #[.val (.ref a_INCREMENT), .val (.ref a_WRITE)] [(.int (1 : Int32))])) _
    exact retN X2 hx (t := .boolean) Bd.returns (by simp) (hb hby d2_31) hr
  · show own_Q _ _ _ _ T2.heap _
    exact ⟨rfl, N0, e2⟩
set_option maxRecDepth 65536 in
set_option maxHeartbeats 40000000 in
theorem rm0_11 (l : Launch) (Z : State) (a0 : Array Value) (hw : ∀ d ∈ tables_1, d.before a0 Z = true) (ws : List Jvm.Cond) (p0 p1 : Int32) (a_READ a_COMMIT a_ABORT a_WRITE a_INCREMENT : Addr) (h0 : Heap) (n0 : Nat) (Z0 : n0 ≤ h0.size) (FF : Facts Z h0 a_READ a_COMMIT a_ABORT a_WRITE a_INCREMENT) (hk0 : ((p0 &&& (2147483647 : Int32)) % (5 : Int32)) = (2 : Int32)) (hk1 : ((p1 &&& (2147483647 : Int32)) % (5 : Int32)) = (1 : Int32)) :
    MetFree l x (head1 (Jvm.Cond.code x code maxLocals ret :: ws) room_1) (fun a U => a = #[(.int p0), (.int p1)] ∧ Z.Warmed39 U.vm ∧ U.heap = h0) (fun _ _ _ _ _ => True) (fun _ U o U' => ∃ v L, o = .returned v ∧ (v = some (.int (1 : Int32)) ∧ Fr n0 L) ∧ FrameEnd U o U' L room_1.cells room_1.slots) := by
  refine MetFree.of_bodySF (plainFor_of_name pn_0) hisR ?_
  intro p e s m args below meth c s₁ Bd hml0 hP hK
  obtain ⟨rfl, hZ, hh⟩ := hP
  have hx := Bd.exec
  have hby := Bd.bytes
  have hml : c.maxLocals = 8 := hml0
  have hown : s.vm.findClass "com/example/schedulock/schedulock/schedule/OperationKindConflictsWithPinLaw" = some m.cls := findClass_of_methodNamed Bd.named
  have X0 : Stand p l e room_1 s m #[(.int p0), (.int p1)] below meth c s₁ [] 0 0 := Stand.of_body Bd
  have e0 : s₁.heap = h0 := by rw [← hh, Bd.state]; rfl
  have N0 := Fr.nil n0
  have pre0 : ∀ t, Steps p.tables e below (s₁.setTop (mkF m 0 #[.val (.int p0), .val (.int p1), .unset, .unset, .unset, .unset, .unset, .unset] [])) t → Steps p.tables e below (s₁.setTop (entryFrame m #[(.int p0), (.int p1)] maxLocals)) t := fun t k => castTop (ef_0 m p0 p1) k
  obtain ⟨_, _, ⟨T1, L1, k1, n1⟩, -, X1, ⟨Lc1, hQ1, l1, y1, z1⟩, st1⟩ := Jvm.LawKit.callS X0 hx (y := (⟨"com/example/schedulock/schedulock/schedule/OperationKindConflictsWithPinLaw", "kind", "(I)Lcom/example/schedulock/schedulock/schedule/OperationKind;"⟩ : MethodName)) hown (mvT hZ (hw _ (List.mem_of_getElem? (i := 1) rfl))) (mvT hZ (hw _ (List.mem_of_getElem? (i := 2) rfl))) (mvT hZ (hw _ (List.mem_of_getElem? (i := 3) rfl))) (mvT hZ (hw _ (List.mem_of_getElem? (i := 4) rfl))) (by decide) (backOf (W := 0) (rm1_2 l Z a0 hw [] p0 p1 a_READ a_COMMIT a_ABORT a_WRITE a_INCREMENT h0 n0 (Nat.le_trans Z0 (Nat.le_refl _)) FF) hZ (hw _ (List.mem_of_getElem? (i := 4) rfl)) (hw _ (List.mem_of_getElem? (i := 3) rfl)) (by decide) (by decide)) (g := (mkF m 15 #[.val (.int p0), .val (.int p1), .val (.int (2 : Int32)), .val (.int (1 : Int32)), .unset, .unset, .unset, .unset] [(.int (2 : Int32))])) rfl (by rw [hml]; rfl) (argsL := [(.int (2 : Int32))]) (rest := []) (lenOf pd_0 rfl) rfl (by show 2 * 0 + _ ≤ _; exact Nat.le_of_eq rfl) (hb hby at_15) (fun _ _ => ⟨rfl, e0, (by decide : 0 + 0 ≤ _), (by decide : 0 + 0 ≤ _)⟩)
  dsimp only [Pt.U, Pt.locs, Pt.cells, Pt.slots] at X1 l1 y1 z1 st1 hQ1
  subst l1 y1 z1
  obtain ⟨rfl, N1q, e1⟩ := hQ1
  have N1 := Fr.app N0 N1q
  obtain ⟨_, _, ⟨T2, L2, k2, n2⟩, -, X2, ⟨Lc2, hQ2, l2, y2, z2⟩, st2⟩ := Jvm.LawKit.callS X1 hx (y := (⟨"com/example/schedulock/schedulock/schedule/OperationKindConflictsWithPinLaw", "kind", "(I)Lcom/example/schedulock/schedulock/schedule/OperationKind;"⟩ : MethodName)) hown (mvT hZ (hw _ (List.mem_of_getElem? (i := 1) rfl))) (mvT hZ (hw _ (List.mem_of_getElem? (i := 2) rfl))) (mvT hZ (hw _ (List.mem_of_getElem? (i := 3) rfl))) (mvT hZ (hw _ (List.mem_of_getElem? (i := 4) rfl))) (by decide) (backOf (W := 0) (rm1_1 l Z a0 hw [] p0 p1 a_READ a_COMMIT a_ABORT a_WRITE a_INCREMENT h0 n0 (Nat.le_trans Z0 (Nat.le_refl _)) FF) hZ (hw _ (List.mem_of_getElem? (i := 4) rfl)) (hw _ (List.mem_of_getElem? (i := 3) rfl)) (by decide) (by decide)) (g := (mkF m 21 #[.val (.int p0), .val (.int p1), .val (.int (2 : Int32)), .val (.int (1 : Int32)), .val (.ref a_INCREMENT), .unset, .unset, .unset] [(.int (1 : Int32))])) rfl (by rw [hml]; rfl) (argsL := [(.int (1 : Int32))]) (rest := []) (lenOf pd_0 rfl) rfl (by show 2 * 0 + _ ≤ _; exact Nat.le_of_eq rfl) (hb hby at_21) (fun _ _ => ⟨rfl, e1, (by decide : 0 + 0 ≤ _), (by decide : 0 + 0 ≤ _)⟩)
  dsimp only [Pt.U, Pt.locs, Pt.cells, Pt.slots] at X2 l2 y2 z2 st2 hQ2
  subst l2 y2 z2
  obtain ⟨rfl, N2q, e2⟩ := hQ2
  have N2 := Fr.app N1 N2q
  obtain ⟨T3, h3, b3, k3, lc3, X3, e3, s_b3, z3, N3, FF3, V3, st3⟩ := seg_0 (l := l) (Z := Z) hw a_READ a_COMMIT a_ABORT a_WRITE a_INCREMENT p0 p1 (2 : Int32) (1 : Int32) a_INCREMENT a_WRITE X2 hx hZ hby hml hown e2 Z0 N2 FF
  obtain ⟨c4, r4, -, S4, -, H4, -⟩ := V3
  have i4 : ¬ ((11 : Int32) < 0 ∨ c4.slots.size ≤ ((11 : Int32)).toNatClampNeg) := inb_of S4 ⟨by decide, by decide⟩
  have y4 : c4.slots[((11 : Int32)).toNatClampNeg]? = some (.int (1 : Int32)) := H4 11 (by rw [S4]; decide)
  obtain ⟨cq5, kq5, q5a, q5b, q5c⟩ := isOf hZ e3 (fx_E_INCREMENT FF3)
  obtain ⟨_, _, ⟨T5, L5, k5, n5⟩, -, X5, ⟨Lc5, hQ5, l5, y5, z5⟩, st5⟩ := X3.virtualBack hx (y := (⟨"com/example/schedulock/schedulock/schedule/OperationKind", "conflictsWith", "(Lcom/example/schedulock/schedulock/schedule/OperationKind;)Z"⟩ : MethodName)) (z := (⟨"com/example/schedulock/schedulock/schedule/OperationKind", "conflictsWith", "(Lcom/example/schedulock/schedulock/schedule/OperationKind;)Z"⟩ : MethodName)) hown (mvT hZ (hw _ (List.mem_of_getElem? (i := 11) rfl))) (mvT hZ (hw _ (List.mem_of_getElem? (i := 12) rfl))) (notFace_of_selects (args := #[]) (mvT hZ (hw _ (List.mem_of_getElem? (i := 14) rfl)))) (mvT hZ (hw _ (List.mem_of_getElem? (i := 14) rfl))) (mvT hZ (hw _ (List.mem_of_getElem? (i := 13) rfl))) (by decide) (backOf (W := 0) (rm2_11 l Z a0 hw [] p0 p1 a_READ a_COMMIT a_ABORT a_WRITE a_INCREMENT h3 n0 (Nat.le_trans Z0 z3) FF3) hZ (hw _ (List.mem_of_getElem? (i := 15) rfl)) (hw _ (List.mem_of_getElem? (i := 6) rfl)) (by decide) (by decide)) q5a q5c (g := (mkF m 165 #[.val (.int p0), .val (.int p1), .val (.int (2 : Int32)), .val (.int (1 : Int32)), .val (.ref a_INCREMENT), .val (.ref a_WRITE), .val (.ref b3), .val (.int (1 : Int32))] [(.ref a_WRITE), (.ref a_INCREMENT)])) rfl (by rw [hml]; rfl) (Steps.refl _) (argsL := [(.ref a_WRITE)]) (rest := []) (lenOf pd_1 rfl) rfl (by show 2 * 0 + _ ≤ _; exact Nat.le_of_eq rfl) (hb hby at_165) (fun _ _ => ⟨rfl, e3, (by decide : 1 + 0 ≤ _), (by decide : 25 + 0 ≤ _)⟩)
  dsimp only [Pt.U, Pt.locs, Pt.cells, Pt.slots] at X5 l5 y5 z5 st5 hQ5
  subst l5 y5 z5
  obtain ⟨rfl, N5q, e5⟩ := hQ5
  have N5 := Fr.app N3 N5q
  obtain ⟨fs, hr, hrun, hended, hW, hsame⟩ := X5.leave (v := some (.int (1 : Int32))) (fun h => by rw [Bd.returns] at h; cases h)
  refine ⟨_, _, pre0 _ ?_, hrun, hended, _, _, rfl, ?_, ⟨_, rfl⟩, hW, hsame.mono (by decide) (by decide)⟩
  · show Steps p.tables e below (s₁.setTop (mkF m 0 #[.val (.int p0), .val (.int p1), .unset, .unset, .unset, .unset, .unset, .unset] [])) _
    refine XS.iloadN X0.here hx rfl (hb hby at_0) rfl ?_
    show Steps p.tables e below (s₁.setTop (mkF m 1 #[.val (.int p0), .val (.int p1), .unset, .unset, .unset, .unset, .unset, .unset] [(.int p0)])) _
    refine X0.ldcInt hx hown (mvT hZ (hw _ (List.mem_of_getElem? (i := 0) rfl))) (g := (mkF m 1 #[.val (.int p0), .val (.int p1), .unset, .unset, .unset, .unset, .unset, .unset] [(.int p0)])) rfl (hb hby at_1) _ ?_
    show Steps p.tables e below (s₁.setTop (mkF m 3 #[.val (.int p0), .val (.int p1), .unset, .unset, .unset, .unset, .unset, .unset] [(.int (2147483647 : Int32)), (.int p0)])) _
    refine XS.iand X0.here hx rfl (hb hby at_3) rfl ?_
    show Steps p.tables e below (s₁.setTop (mkF m 4 #[.val (.int p0), .val (.int p1), .unset, .unset, .unset, .unset, .unset, .unset] [(.int (p0 &&& (2147483647 : Int32)))])) _
    refine XS.iconst X0.here hx rfl (hb hby at_4) ?_
    show Steps p.tables e below (s₁.setTop (mkF m 5 #[.val (.int p0), .val (.int p1), .unset, .unset, .unset, .unset, .unset, .unset] [(.int (5 : Int32)), (.int (p0 &&& (2147483647 : Int32)))])) _
    refine iremM X0 hx rfl (hb hby at_5) rfl (by decide) ?_
    show Steps p.tables e below (s₁.setTop (mkF m 6 #[.val (.int p0), .val (.int p1), .unset, .unset, .unset, .unset, .unset, .unset] [(.int ((p0 &&& (2147483647 : Int32)) % (5 : Int32)))])) _
    rw [hk0]
    show Steps p.tables e below (s₁.setTop (mkF m 6 #[.val (.int p0), .val (.int p1), .unset, .unset, .unset, .unset, .unset, .unset] [(.int (2 : Int32))])) _
    refine XS.istoreN X0.here hx rfl (hb hby at_6) rfl (l' := #[.val (.int p0), .val (.int p1), .val (.int (2 : Int32)), .unset, .unset, .unset, .unset, .unset]) rfl ?_
    show Steps p.tables e below (s₁.setTop (mkF m 7 #[.val (.int p0), .val (.int p1), .val (.int (2 : Int32)), .unset, .unset, .unset, .unset, .unset] [])) _
    refine XS.iloadN X0.here hx rfl (hb hby at_7) rfl ?_
    show Steps p.tables e below (s₁.setTop (mkF m 8 #[.val (.int p0), .val (.int p1), .val (.int (2 : Int32)), .unset, .unset, .unset, .unset, .unset] [(.int p1)])) _
    refine X0.ldcInt hx hown (mvT hZ (hw _ (List.mem_of_getElem? (i := 0) rfl))) (g := (mkF m 8 #[.val (.int p0), .val (.int p1), .val (.int (2 : Int32)), .unset, .unset, .unset, .unset, .unset] [(.int p1)])) rfl (hb hby at_8) _ ?_
    show Steps p.tables e below (s₁.setTop (mkF m 10 #[.val (.int p0), .val (.int p1), .val (.int (2 : Int32)), .unset, .unset, .unset, .unset, .unset] [(.int (2147483647 : Int32)), (.int p1)])) _
    refine XS.iand X0.here hx rfl (hb hby at_10) rfl ?_
    show Steps p.tables e below (s₁.setTop (mkF m 11 #[.val (.int p0), .val (.int p1), .val (.int (2 : Int32)), .unset, .unset, .unset, .unset, .unset] [(.int (p1 &&& (2147483647 : Int32)))])) _
    refine XS.iconst X0.here hx rfl (hb hby at_11) ?_
    show Steps p.tables e below (s₁.setTop (mkF m 12 #[.val (.int p0), .val (.int p1), .val (.int (2 : Int32)), .unset, .unset, .unset, .unset, .unset] [(.int (5 : Int32)), (.int (p1 &&& (2147483647 : Int32)))])) _
    refine iremM X0 hx rfl (hb hby at_12) rfl (by decide) ?_
    show Steps p.tables e below (s₁.setTop (mkF m 13 #[.val (.int p0), .val (.int p1), .val (.int (2 : Int32)), .unset, .unset, .unset, .unset, .unset] [(.int ((p1 &&& (2147483647 : Int32)) % (5 : Int32)))])) _
    rw [hk1]
    show Steps p.tables e below (s₁.setTop (mkF m 13 #[.val (.int p0), .val (.int p1), .val (.int (2 : Int32)), .unset, .unset, .unset, .unset, .unset] [(.int (1 : Int32))])) _
    refine XS.istoreN X0.here hx rfl (hb hby at_13) rfl (l' := #[.val (.int p0), .val (.int p1), .val (.int (2 : Int32)), .val (.int (1 : Int32)), .unset, .unset, .unset, .unset]) rfl ?_
    show Steps p.tables e below (s₁.setTop (mkF m 14 #[.val (.int p0), .val (.int p1), .val (.int (2 : Int32)), .val (.int (1 : Int32)), .unset, .unset, .unset, .unset] [])) _
    refine XS.iloadN X0.here hx rfl (hb hby at_14) rfl ?_
    show Steps p.tables e below (s₁.setTop (mkF m 15 #[.val (.int p0), .val (.int p1), .val (.int (2 : Int32)), .val (.int (1 : Int32)), .unset, .unset, .unset, .unset] [(.int (2 : Int32))])) _
    refine st1 _ ?_
    show Steps p.tables e below (T1.setTop (mkF m 18 #[.val (.int p0), .val (.int p1), .val (.int (2 : Int32)), .val (.int (1 : Int32)), .unset, .unset, .unset, .unset] [(.ref a_INCREMENT)])) _
    refine XS.astore X1.here hx rfl (hb hby at_18) rfl rfl (l' := #[.val (.int p0), .val (.int p1), .val (.int (2 : Int32)), .val (.int (1 : Int32)), .val (.ref a_INCREMENT), .unset, .unset, .unset]) rfl ?_
    show Steps p.tables e below (T1.setTop (mkF m 20 #[.val (.int p0), .val (.int p1), .val (.int (2 : Int32)), .val (.int (1 : Int32)), .val (.ref a_INCREMENT), .unset, .unset, .unset] [])) _
    refine XS.iloadN X1.here hx rfl (hb hby at_20) rfl ?_
    show Steps p.tables e below (T1.setTop (mkF m 21 #[.val (.int p0), .val (.int p1), .val (.int (2 : Int32)), .val (.int (1 : Int32)), .val (.ref a_INCREMENT), .unset, .unset, .unset] [(.int (1 : Int32))])) _
    refine st2 _ ?_
    show Steps p.tables e below (T2.setTop (mkF m 24 #[.val (.int p0), .val (.int p1), .val (.int (2 : Int32)), .val (.int (1 : Int32)), .val (.ref a_INCREMENT), .unset, .unset, .unset] [(.ref a_WRITE)])) _
    refine XS.astore X2.here hx rfl (hb hby at_24) rfl rfl (l' := #[.val (.int p0), .val (.int p1), .val (.int (2 : Int32)), .val (.int (1 : Int32)), .val (.ref a_INCREMENT), .val (.ref a_WRITE), .unset, .unset]) rfl ?_
    show Steps p.tables e below (T2.setTop (mkF m 26 #[.val (.int p0), .val (.int p1), .val (.int (2 : Int32)), .val (.int (1 : Int32)), .val (.ref a_INCREMENT), .val (.ref a_WRITE), .unset, .unset] [])) _
    refine st3 _ ?_
    show Steps p.tables e below (T3.setTop (mkF m 151 #[.val (.int p0), .val (.int p1), .val (.int (2 : Int32)), .val (.int (1 : Int32)), .val (.ref a_INCREMENT), .val (.ref a_WRITE), .val (.ref b3), .unset] [])) _
    refine XS.aload X3.here hx rfl (hb hby at_151) rfl rfl ?_
    show Steps p.tables e below (T3.setTop (mkF m 153 #[.val (.int p0), .val (.int p1), .val (.int (2 : Int32)), .val (.int (1 : Int32)), .val (.ref a_INCREMENT), .val (.ref a_WRITE), .val (.ref b3), .unset] [(.ref b3)])) _
    refine XS.iloadN X3.here hx rfl (hb hby at_153) rfl ?_
    show Steps p.tables e below (T3.setTop (mkF m 154 #[.val (.int p0), .val (.int p1), .val (.int (2 : Int32)), .val (.int (1 : Int32)), .val (.ref a_INCREMENT), .val (.ref a_WRITE), .val (.ref b3), .unset] [(.int (2 : Int32)), (.ref b3)])) _
    refine XS.iconst X3.here hx rfl (hb hby at_154) ?_
    show Steps p.tables e below (T3.setTop (mkF m 155 #[.val (.int p0), .val (.int p1), .val (.int (2 : Int32)), .val (.int (1 : Int32)), .val (.ref a_INCREMENT), .val (.ref a_WRITE), .val (.ref b3), .unset] [(.int (5 : Int32)), (.int (2 : Int32)), (.ref b3)])) _
    refine XS.imul X3.here hx rfl (hb hby at_155) rfl ?_
    show Steps p.tables e below (T3.setTop (mkF m 156 #[.val (.int p0), .val (.int p1), .val (.int (2 : Int32)), .val (.int (1 : Int32)), .val (.ref a_INCREMENT), .val (.ref a_WRITE), .val (.ref b3), .unset] [(.int ((2 : Int32) * (5 : Int32))), (.ref b3)])) _
    rw [(by decide : ((2 : Int32) * (5 : Int32)) = (10 : Int32))]
    show Steps p.tables e below (T3.setTop (mkF m 156 #[.val (.int p0), .val (.int p1), .val (.int (2 : Int32)), .val (.int (1 : Int32)), .val (.ref a_INCREMENT), .val (.ref a_WRITE), .val (.ref b3), .unset] [(.int (10 : Int32)), (.ref b3)])) _
    refine XS.iloadN X3.here hx rfl (hb hby at_156) rfl ?_
    show Steps p.tables e below (T3.setTop (mkF m 157 #[.val (.int p0), .val (.int p1), .val (.int (2 : Int32)), .val (.int (1 : Int32)), .val (.ref a_INCREMENT), .val (.ref a_WRITE), .val (.ref b3), .unset] [(.int (1 : Int32)), (.int (10 : Int32)), (.ref b3)])) _
    refine XS.iadd X3.here hx rfl (hb hby at_157) rfl ?_
    show Steps p.tables e below (T3.setTop (mkF m 158 #[.val (.int p0), .val (.int p1), .val (.int (2 : Int32)), .val (.int (1 : Int32)), .val (.ref a_INCREMENT), .val (.ref a_WRITE), .val (.ref b3), .unset] [(.int ((10 : Int32) + (1 : Int32))), (.ref b3)])) _
    rw [(by decide : ((10 : Int32) + (1 : Int32)) = (11 : Int32))]
    show Steps p.tables e below (T3.setTop (mkF m 158 #[.val (.int p0), .val (.int p1), .val (.int (2 : Int32)), .val (.int (1 : Int32)), .val (.ref a_INCREMENT), .val (.ref a_WRITE), .val (.ref b3), .unset] [(.int (11 : Int32)), (.ref b3)])) _
    refine X3.baloadBooleans hx (j := (11 : Int32)) (v := (.int (1 : Int32))) (by rw [e3]; exact r4.1) (State.isArrayOf_alike hZ.alike r4.2.1) r4.2.2 i4 y4 (g := (mkF m 158 #[.val (.int p0), .val (.int p1), .val (.int (2 : Int32)), .val (.int (1 : Int32)), .val (.ref a_INCREMENT), .val (.ref a_WRITE), .val (.ref b3), .unset] [(.int (11 : Int32)), (.ref b3)])) rfl rfl (hb hby at_158) _ ?_
    show Steps p.tables e below (T3.setTop (mkF m 159 #[.val (.int p0), .val (.int p1), .val (.int (2 : Int32)), .val (.int (1 : Int32)), .val (.ref a_INCREMENT), .val (.ref a_WRITE), .val (.ref b3), .unset] [(.int (1 : Int32))])) _
    refine XS.istore X3.here hx rfl (hb hby at_159) rfl (l' := #[.val (.int p0), .val (.int p1), .val (.int (2 : Int32)), .val (.int (1 : Int32)), .val (.ref a_INCREMENT), .val (.ref a_WRITE), .val (.ref b3), .val (.int (1 : Int32))]) rfl ?_
    show Steps p.tables e below (T3.setTop (mkF m 161 #[.val (.int p0), .val (.int p1), .val (.int (2 : Int32)), .val (.int (1 : Int32)), .val (.ref a_INCREMENT), .val (.ref a_WRITE), .val (.ref b3), .val (.int (1 : Int32))] [])) _
    refine XS.aload X3.here hx rfl (hb hby at_161) rfl rfl ?_
    show Steps p.tables e below (T3.setTop (mkF m 163 #[.val (.int p0), .val (.int p1), .val (.int (2 : Int32)), .val (.int (1 : Int32)), .val (.ref a_INCREMENT), .val (.ref a_WRITE), .val (.ref b3), .val (.int (1 : Int32))] [(.ref a_INCREMENT)])) _
    refine XS.aload X3.here hx rfl (hb hby at_163) rfl rfl ?_
    show Steps p.tables e below (T3.setTop (mkF m 165 #[.val (.int p0), .val (.int p1), .val (.int (2 : Int32)), .val (.int (1 : Int32)), .val (.ref a_INCREMENT), .val (.ref a_WRITE), .val (.ref b3), .val (.int (1 : Int32))] [(.ref a_WRITE), (.ref a_INCREMENT)])) _
    refine st5.trans ?_
    show Steps p.tables e below (T5.setTop (mkF m 168 #[.val (.int p0), .val (.int p1), .val (.int (2 : Int32)), .val (.int (1 : Int32)), .val (.ref a_INCREMENT), .val (.ref a_WRITE), .val (.ref b3), .val (.int (1 : Int32))] [(.int (1 : Int32))])) _
    refine XS.iload X5.here hx rfl (hb hby at_168) rfl ?_
    show Steps p.tables e below (T5.setTop (mkF m 170 #[.val (.int p0), .val (.int p1), .val (.int (2 : Int32)), .val (.int (1 : Int32)), .val (.ref a_INCREMENT), .val (.ref a_WRITE), .val (.ref b3), .val (.int (1 : Int32))] [(.int (1 : Int32)), (.int (1 : Int32))])) _
    refine XS.icmpNo X5.here hx rfl (hb hby at_170) rfl (by decide) ?_
    show Steps p.tables e below (T5.setTop (mkF m 173 #[.val (.int p0), .val (.int p1), .val (.int (2 : Int32)), .val (.int (1 : Int32)), .val (.ref a_INCREMENT), .val (.ref a_WRITE), .val (.ref b3), .val (.int (1 : Int32))] [])) _
    refine XS.iconst X5.here hx rfl (hb hby at_173) ?_
    show Steps p.tables e below (T5.setTop (mkF m 174 #[.val (.int p0), .val (.int p1), .val (.int (2 : Int32)), .val (.int (1 : Int32)), .val (.ref a_INCREMENT), .val (.ref a_WRITE), .val (.ref b3), .val (.int (1 : Int32))] [(.int (1 : Int32))])) _
    refine XS.goto X5.here hx rfl (pc0 := 174) (pc' := 178) rfl (hb hby at_174) (by decide) (by decide) ?_
    show Steps p.tables e below (T5.setTop (mkF m 178 #[.val (.int p0), .val (.int p1), .val (.int (2 : Int32)), .val (.int (1 : Int32)), .val (.ref a_INCREMENT), .val (.ref a_WRITE), .val (.ref b3), .val (.int (1 : Int32))] [(.int (1 : Int32))])) _
    exact retN X5 hx (t := .boolean) Bd.returns (by simp) (hb hby at_178) hr
  · exact ⟨rfl, N5⟩
set_option maxRecDepth 65536 in
set_option maxHeartbeats 40000000 in
theorem rm2_12 (l : Launch) (Z : State) (a0 : Array Value) (hw : ∀ d ∈ tables_1, d.before a0 Z = true) (ws : List Jvm.Cond) (p0 p1 : Int32) (a_READ a_COMMIT a_ABORT a_WRITE a_INCREMENT : Addr) (h0 : Heap) (n0 : Nat) (Z0 : n0 ≤ h0.size) (FF : Facts Z h0 a_READ a_COMMIT a_ABORT a_WRITE a_INCREMENT) :
    MetFree l (⟨"com/example/schedulock/schedulock/schedule/OperationKind", "conflictsWith", "(Lcom/example/schedulock/schedulock/schedule/OperationKind;)Z"⟩ : MethodName) (head1 (Jvm.Cond.code (⟨"com/example/schedulock/schedulock/schedule/OperationKind", "conflictsWith", "(Lcom/example/schedulock/schedulock/schedule/OperationKind;)Z"⟩ : MethodName) prog_31_method_5_code 2 (some .boolean) :: ws) ({ frames := 0, cells := 0, slots := 0, locals := 0 } : Room)) (fun a U => a = #[(.ref a_INCREMENT), (.ref a_INCREMENT)] ∧ Z.Warmed39 U.vm ∧ U.heap = h0) (fun _ _ _ _ _ => True) (fun _ U o U' => ∃ v L, o = .returned v ∧ own_Q (.int (0 : Int32)) h0 n0 v U'.heap L ∧ FrameEnd U o U' L ({ frames := 0, cells := 0, slots := 0, locals := 0 } : Room).cells ({ frames := 0, cells := 0, slots := 0, locals := 0 } : Room).slots) := by
  refine MetFree.of_bodySF (plainFor_of_name pn_2) hisR ?_
  intro p e s m args below meth c s₁ Bd hml0 hP hK
  obtain ⟨rfl, hZ, hh⟩ := hP
  have hx := Bd.exec
  have hby := Bd.bytes
  have hml : c.maxLocals = 2 := hml0
  have hown : s.vm.findClass "com/example/schedulock/schedulock/schedule/OperationKind" = some m.cls := findClass_of_methodNamed Bd.named
  have X0 : Stand p l e ({ frames := 0, cells := 0, slots := 0, locals := 0 } : Room) s m #[(.ref a_INCREMENT), (.ref a_INCREMENT)] below meth c s₁ [] 0 0 := Stand.of_body Bd
  have e0 : s₁.heap = h0 := by rw [← hh, Bd.state]; rfl
  have N0 := Fr.nil n0
  have pre0 : ∀ t, Steps p.tables e below (s₁.setTop (mkF m 0 #[.val (.ref a_INCREMENT), .val (.ref a_INCREMENT)] [])) t → Steps p.tables e below (s₁.setTop (entryFrame m #[(.ref a_INCREMENT), (.ref a_INCREMENT)] 2)) t := fun t k => castTop (ef_2 m a_INCREMENT a_INCREMENT) k
  obtain ⟨T1, X1, e1, st1⟩ := getF X0 hx hZ hown (host := "") (Or.inl (hw _ (List.mem_of_getElem? (i := 16) rfl))) Via.refl e0 (fx_F_INCREMENT_takesItem FF) (g := (mkF m 1 #[.val (.ref a_INCREMENT), .val (.ref a_INCREMENT)] [(.ref a_INCREMENT)])) rfl rfl (hb hby d2_1)
  obtain ⟨T2, X2, e2, st2⟩ := getF X1 hx hZ hown (host := "") (Or.inl (hw _ (List.mem_of_getElem? (i := 16) rfl))) Via.refl e1 (fx_F_INCREMENT_takesItem FF) (g := (mkF m 8 #[.val (.ref a_INCREMENT), .val (.ref a_INCREMENT)] [(.ref a_INCREMENT)])) rfl rfl (hb hby d2_8)
  obtain ⟨T3, X3, e3, st3⟩ := getF X2 hx hZ hown (host := "") (Or.inl (hw _ (List.mem_of_getElem? (i := 22) rfl))) Via.refl e2 (fx_F_INCREMENT_commutesWithItself FF) (g := (mkF m 20 #[.val (.ref a_INCREMENT), .val (.ref a_INCREMENT)] [(.ref a_INCREMENT)])) rfl rfl (hb hby d2_20)
  obtain ⟨fs, hr, hrun, hended, hW, hsame⟩ := X3.leave (v := some (.int (0 : Int32))) (fun h => by rw [Bd.returns] at h; cases h)
  refine ⟨_, _, pre0 _ ?_, hrun, hended, _, _, rfl, ?_, ⟨_, rfl⟩, hW, hsame.mono (by decide) (by decide)⟩
  · show Steps p.tables e below (s₁.setTop (mkF m 0 #[.val (.ref a_INCREMENT), .val (.ref a_INCREMENT)] [])) _
    refine XS.aloadN X0.here hx rfl (hb hby d2_0) rfl rfl ?_
    show Steps p.tables e below (s₁.setTop (mkF m 1 #[.val (.ref a_INCREMENT), .val (.ref a_INCREMENT)] [(.ref a_INCREMENT)])) _
    refine st1 _ ?_
    show Steps p.tables e below (T1.setTop (mkF m 4 #[.val (.ref a_INCREMENT), .val (.ref a_INCREMENT)] [(.int (1 : Int32))])) _
    refine XS.ifNo X1.here hx rfl (hb hby d2_4) rfl (by decide) ?_
    show Steps p.tables e below (T1.setTop (mkF m 7 #[.val (.ref a_INCREMENT), .val (.ref a_INCREMENT)] [])) _
    refine XS.aloadN X1.here hx rfl (hb hby d2_7) rfl rfl ?_
    show Steps p.tables e below (T1.setTop (mkF m 8 #[.val (.ref a_INCREMENT), .val (.ref a_INCREMENT)] [(.ref a_INCREMENT)])) _
    refine st2 _ ?_
    show Steps p.tables e below (T2.setTop (mkF m 11 #[.val (.ref a_INCREMENT), .val (.ref a_INCREMENT)] [(.int (1 : Int32))])) _
    refine XS.ifNo X2.here hx rfl (hb hby d2_11) rfl (by decide) ?_
    show Steps p.tables e below (T2.setTop (mkF m 14 #[.val (.ref a_INCREMENT), .val (.ref a_INCREMENT)] [])) _
    refine XS.aloadN X2.here hx rfl (hb hby d2_14) rfl rfl ?_
    show Steps p.tables e below (T2.setTop (mkF m 15 #[.val (.ref a_INCREMENT), .val (.ref a_INCREMENT)] [(.ref a_INCREMENT)])) _
    refine XS.aloadN X2.here hx rfl (hb hby d2_15) rfl rfl ?_
    show Steps p.tables e below (T2.setTop (mkF m 16 #[.val (.ref a_INCREMENT), .val (.ref a_INCREMENT)] [(.ref a_INCREMENT), (.ref a_INCREMENT)])) _
    refine Jvm.RoadKit.acmp (g := (mkF m 16 #[.val (.ref a_INCREMENT), .val (.ref a_INCREMENT)] [(.ref a_INCREMENT), (.ref a_INCREMENT)])) X2 hx rfl rfl rfl (pc0 := 16) (pc' := 19) (same := true) rfl (hb hby d2_16) rfl (decide_eq_true rfl) (by decide) (by decide) ?_
    show Steps p.tables e below (T2.setTop (mkF m 19 #[.val (.ref a_INCREMENT), .val (.ref a_INCREMENT)] [])) _
    refine XS.aloadN X2.here hx rfl (hb hby d2_19) rfl rfl ?_
    show Steps p.tables e below (T2.setTop (mkF m 20 #[.val (.ref a_INCREMENT), .val (.ref a_INCREMENT)] [(.ref a_INCREMENT)])) _
    refine st3 _ ?_
    show Steps p.tables e below (T3.setTop (mkF m 23 #[.val (.ref a_INCREMENT), .val (.ref a_INCREMENT)] [(.int (1 : Int32))])) _
    refine XS.ifYes X3.here hx rfl (pc0 := 23) (pc' := 30) rfl (hb hby d2_23) rfl (by decide) (by decide) (by decide) ?_
    show Steps p.tables e below (T3.setTop (mkF m 30 #[.val (.ref a_INCREMENT), .val (.ref a_INCREMENT)] [])) _
    refine XS.iconst X3.here hx rfl (hb hby d2_30) ?_
    show Steps p.tables e below (T3.setTop (mkF m 31 #[.val (.ref a_INCREMENT), .val (.ref a_INCREMENT)] [(.int (0 : Int32))])) _
    exact retN X3 hx (t := .boolean) Bd.returns (by simp) (hb hby d2_31) hr
  · show own_Q _ _ _ _ T3.heap _
    exact ⟨rfl, N0, e3⟩
set_option maxRecDepth 65536 in
set_option maxHeartbeats 40000000 in
theorem rm0_12 (l : Launch) (Z : State) (a0 : Array Value) (hw : ∀ d ∈ tables_1, d.before a0 Z = true) (ws : List Jvm.Cond) (p0 p1 : Int32) (a_READ a_COMMIT a_ABORT a_WRITE a_INCREMENT : Addr) (h0 : Heap) (n0 : Nat) (Z0 : n0 ≤ h0.size) (FF : Facts Z h0 a_READ a_COMMIT a_ABORT a_WRITE a_INCREMENT) (hk0 : ((p0 &&& (2147483647 : Int32)) % (5 : Int32)) = (2 : Int32)) (hk1 : ((p1 &&& (2147483647 : Int32)) % (5 : Int32)) = (2 : Int32)) :
    MetFree l x (head1 (Jvm.Cond.code x code maxLocals ret :: ws) room_1) (fun a U => a = #[(.int p0), (.int p1)] ∧ Z.Warmed39 U.vm ∧ U.heap = h0) (fun _ _ _ _ _ => True) (fun _ U o U' => ∃ v L, o = .returned v ∧ (v = some (.int (1 : Int32)) ∧ Fr n0 L) ∧ FrameEnd U o U' L room_1.cells room_1.slots) := by
  refine MetFree.of_bodySF (plainFor_of_name pn_0) hisR ?_
  intro p e s m args below meth c s₁ Bd hml0 hP hK
  obtain ⟨rfl, hZ, hh⟩ := hP
  have hx := Bd.exec
  have hby := Bd.bytes
  have hml : c.maxLocals = 8 := hml0
  have hown : s.vm.findClass "com/example/schedulock/schedulock/schedule/OperationKindConflictsWithPinLaw" = some m.cls := findClass_of_methodNamed Bd.named
  have X0 : Stand p l e room_1 s m #[(.int p0), (.int p1)] below meth c s₁ [] 0 0 := Stand.of_body Bd
  have e0 : s₁.heap = h0 := by rw [← hh, Bd.state]; rfl
  have N0 := Fr.nil n0
  have pre0 : ∀ t, Steps p.tables e below (s₁.setTop (mkF m 0 #[.val (.int p0), .val (.int p1), .unset, .unset, .unset, .unset, .unset, .unset] [])) t → Steps p.tables e below (s₁.setTop (entryFrame m #[(.int p0), (.int p1)] maxLocals)) t := fun t k => castTop (ef_0 m p0 p1) k
  obtain ⟨_, _, ⟨T1, L1, k1, n1⟩, -, X1, ⟨Lc1, hQ1, l1, y1, z1⟩, st1⟩ := Jvm.LawKit.callS X0 hx (y := (⟨"com/example/schedulock/schedulock/schedule/OperationKindConflictsWithPinLaw", "kind", "(I)Lcom/example/schedulock/schedulock/schedule/OperationKind;"⟩ : MethodName)) hown (mvT hZ (hw _ (List.mem_of_getElem? (i := 1) rfl))) (mvT hZ (hw _ (List.mem_of_getElem? (i := 2) rfl))) (mvT hZ (hw _ (List.mem_of_getElem? (i := 3) rfl))) (mvT hZ (hw _ (List.mem_of_getElem? (i := 4) rfl))) (by decide) (backOf (W := 0) (rm1_2 l Z a0 hw [] p0 p1 a_READ a_COMMIT a_ABORT a_WRITE a_INCREMENT h0 n0 (Nat.le_trans Z0 (Nat.le_refl _)) FF) hZ (hw _ (List.mem_of_getElem? (i := 4) rfl)) (hw _ (List.mem_of_getElem? (i := 3) rfl)) (by decide) (by decide)) (g := (mkF m 15 #[.val (.int p0), .val (.int p1), .val (.int (2 : Int32)), .val (.int (2 : Int32)), .unset, .unset, .unset, .unset] [(.int (2 : Int32))])) rfl (by rw [hml]; rfl) (argsL := [(.int (2 : Int32))]) (rest := []) (lenOf pd_0 rfl) rfl (by show 2 * 0 + _ ≤ _; exact Nat.le_of_eq rfl) (hb hby at_15) (fun _ _ => ⟨rfl, e0, (by decide : 0 + 0 ≤ _), (by decide : 0 + 0 ≤ _)⟩)
  dsimp only [Pt.U, Pt.locs, Pt.cells, Pt.slots] at X1 l1 y1 z1 st1 hQ1
  subst l1 y1 z1
  obtain ⟨rfl, N1q, e1⟩ := hQ1
  have N1 := Fr.app N0 N1q
  obtain ⟨_, _, ⟨T2, L2, k2, n2⟩, -, X2, ⟨Lc2, hQ2, l2, y2, z2⟩, st2⟩ := Jvm.LawKit.callS X1 hx (y := (⟨"com/example/schedulock/schedulock/schedule/OperationKindConflictsWithPinLaw", "kind", "(I)Lcom/example/schedulock/schedulock/schedule/OperationKind;"⟩ : MethodName)) hown (mvT hZ (hw _ (List.mem_of_getElem? (i := 1) rfl))) (mvT hZ (hw _ (List.mem_of_getElem? (i := 2) rfl))) (mvT hZ (hw _ (List.mem_of_getElem? (i := 3) rfl))) (mvT hZ (hw _ (List.mem_of_getElem? (i := 4) rfl))) (by decide) (backOf (W := 0) (rm1_2 l Z a0 hw [] p0 p1 a_READ a_COMMIT a_ABORT a_WRITE a_INCREMENT h0 n0 (Nat.le_trans Z0 (Nat.le_refl _)) FF) hZ (hw _ (List.mem_of_getElem? (i := 4) rfl)) (hw _ (List.mem_of_getElem? (i := 3) rfl)) (by decide) (by decide)) (g := (mkF m 21 #[.val (.int p0), .val (.int p1), .val (.int (2 : Int32)), .val (.int (2 : Int32)), .val (.ref a_INCREMENT), .unset, .unset, .unset] [(.int (2 : Int32))])) rfl (by rw [hml]; rfl) (argsL := [(.int (2 : Int32))]) (rest := []) (lenOf pd_0 rfl) rfl (by show 2 * 0 + _ ≤ _; exact Nat.le_of_eq rfl) (hb hby at_21) (fun _ _ => ⟨rfl, e1, (by decide : 0 + 0 ≤ _), (by decide : 0 + 0 ≤ _)⟩)
  dsimp only [Pt.U, Pt.locs, Pt.cells, Pt.slots] at X2 l2 y2 z2 st2 hQ2
  subst l2 y2 z2
  obtain ⟨rfl, N2q, e2⟩ := hQ2
  have N2 := Fr.app N1 N2q
  obtain ⟨T3, h3, b3, k3, lc3, X3, e3, s_b3, z3, N3, FF3, V3, st3⟩ := seg_0 (l := l) (Z := Z) hw a_READ a_COMMIT a_ABORT a_WRITE a_INCREMENT p0 p1 (2 : Int32) (2 : Int32) a_INCREMENT a_INCREMENT X2 hx hZ hby hml hown e2 Z0 N2 FF
  obtain ⟨c4, r4, -, S4, -, H4, -⟩ := V3
  have i4 : ¬ ((12 : Int32) < 0 ∨ c4.slots.size ≤ ((12 : Int32)).toNatClampNeg) := inb_of S4 ⟨by decide, by decide⟩
  have y4 : c4.slots[((12 : Int32)).toNatClampNeg]? = some (.int (0 : Int32)) := H4 12 (by rw [S4]; decide)
  obtain ⟨cq5, kq5, q5a, q5b, q5c⟩ := isOf hZ e3 (fx_E_INCREMENT FF3)
  obtain ⟨_, _, ⟨T5, L5, k5, n5⟩, -, X5, ⟨Lc5, hQ5, l5, y5, z5⟩, st5⟩ := X3.virtualBack hx (y := (⟨"com/example/schedulock/schedulock/schedule/OperationKind", "conflictsWith", "(Lcom/example/schedulock/schedulock/schedule/OperationKind;)Z"⟩ : MethodName)) (z := (⟨"com/example/schedulock/schedulock/schedule/OperationKind", "conflictsWith", "(Lcom/example/schedulock/schedulock/schedule/OperationKind;)Z"⟩ : MethodName)) hown (mvT hZ (hw _ (List.mem_of_getElem? (i := 11) rfl))) (mvT hZ (hw _ (List.mem_of_getElem? (i := 12) rfl))) (notFace_of_selects (args := #[]) (mvT hZ (hw _ (List.mem_of_getElem? (i := 14) rfl)))) (mvT hZ (hw _ (List.mem_of_getElem? (i := 14) rfl))) (mvT hZ (hw _ (List.mem_of_getElem? (i := 13) rfl))) (by decide) (backOf (W := 0) (rm2_12 l Z a0 hw [] p0 p1 a_READ a_COMMIT a_ABORT a_WRITE a_INCREMENT h3 n0 (Nat.le_trans Z0 z3) FF3) hZ (hw _ (List.mem_of_getElem? (i := 15) rfl)) (hw _ (List.mem_of_getElem? (i := 6) rfl)) (by decide) (by decide)) q5a q5c (g := (mkF m 165 #[.val (.int p0), .val (.int p1), .val (.int (2 : Int32)), .val (.int (2 : Int32)), .val (.ref a_INCREMENT), .val (.ref a_INCREMENT), .val (.ref b3), .val (.int (0 : Int32))] [(.ref a_INCREMENT), (.ref a_INCREMENT)])) rfl (by rw [hml]; rfl) (Steps.refl _) (argsL := [(.ref a_INCREMENT)]) (rest := []) (lenOf pd_1 rfl) rfl (by show 2 * 0 + _ ≤ _; exact Nat.le_of_eq rfl) (hb hby at_165) (fun _ _ => ⟨rfl, e3, (by decide : 1 + 0 ≤ _), (by decide : 25 + 0 ≤ _)⟩)
  dsimp only [Pt.U, Pt.locs, Pt.cells, Pt.slots] at X5 l5 y5 z5 st5 hQ5
  subst l5 y5 z5
  obtain ⟨rfl, N5q, e5⟩ := hQ5
  have N5 := Fr.app N3 N5q
  obtain ⟨fs, hr, hrun, hended, hW, hsame⟩ := X5.leave (v := some (.int (1 : Int32))) (fun h => by rw [Bd.returns] at h; cases h)
  refine ⟨_, _, pre0 _ ?_, hrun, hended, _, _, rfl, ?_, ⟨_, rfl⟩, hW, hsame.mono (by decide) (by decide)⟩
  · show Steps p.tables e below (s₁.setTop (mkF m 0 #[.val (.int p0), .val (.int p1), .unset, .unset, .unset, .unset, .unset, .unset] [])) _
    refine XS.iloadN X0.here hx rfl (hb hby at_0) rfl ?_
    show Steps p.tables e below (s₁.setTop (mkF m 1 #[.val (.int p0), .val (.int p1), .unset, .unset, .unset, .unset, .unset, .unset] [(.int p0)])) _
    refine X0.ldcInt hx hown (mvT hZ (hw _ (List.mem_of_getElem? (i := 0) rfl))) (g := (mkF m 1 #[.val (.int p0), .val (.int p1), .unset, .unset, .unset, .unset, .unset, .unset] [(.int p0)])) rfl (hb hby at_1) _ ?_
    show Steps p.tables e below (s₁.setTop (mkF m 3 #[.val (.int p0), .val (.int p1), .unset, .unset, .unset, .unset, .unset, .unset] [(.int (2147483647 : Int32)), (.int p0)])) _
    refine XS.iand X0.here hx rfl (hb hby at_3) rfl ?_
    show Steps p.tables e below (s₁.setTop (mkF m 4 #[.val (.int p0), .val (.int p1), .unset, .unset, .unset, .unset, .unset, .unset] [(.int (p0 &&& (2147483647 : Int32)))])) _
    refine XS.iconst X0.here hx rfl (hb hby at_4) ?_
    show Steps p.tables e below (s₁.setTop (mkF m 5 #[.val (.int p0), .val (.int p1), .unset, .unset, .unset, .unset, .unset, .unset] [(.int (5 : Int32)), (.int (p0 &&& (2147483647 : Int32)))])) _
    refine iremM X0 hx rfl (hb hby at_5) rfl (by decide) ?_
    show Steps p.tables e below (s₁.setTop (mkF m 6 #[.val (.int p0), .val (.int p1), .unset, .unset, .unset, .unset, .unset, .unset] [(.int ((p0 &&& (2147483647 : Int32)) % (5 : Int32)))])) _
    rw [hk0]
    show Steps p.tables e below (s₁.setTop (mkF m 6 #[.val (.int p0), .val (.int p1), .unset, .unset, .unset, .unset, .unset, .unset] [(.int (2 : Int32))])) _
    refine XS.istoreN X0.here hx rfl (hb hby at_6) rfl (l' := #[.val (.int p0), .val (.int p1), .val (.int (2 : Int32)), .unset, .unset, .unset, .unset, .unset]) rfl ?_
    show Steps p.tables e below (s₁.setTop (mkF m 7 #[.val (.int p0), .val (.int p1), .val (.int (2 : Int32)), .unset, .unset, .unset, .unset, .unset] [])) _
    refine XS.iloadN X0.here hx rfl (hb hby at_7) rfl ?_
    show Steps p.tables e below (s₁.setTop (mkF m 8 #[.val (.int p0), .val (.int p1), .val (.int (2 : Int32)), .unset, .unset, .unset, .unset, .unset] [(.int p1)])) _
    refine X0.ldcInt hx hown (mvT hZ (hw _ (List.mem_of_getElem? (i := 0) rfl))) (g := (mkF m 8 #[.val (.int p0), .val (.int p1), .val (.int (2 : Int32)), .unset, .unset, .unset, .unset, .unset] [(.int p1)])) rfl (hb hby at_8) _ ?_
    show Steps p.tables e below (s₁.setTop (mkF m 10 #[.val (.int p0), .val (.int p1), .val (.int (2 : Int32)), .unset, .unset, .unset, .unset, .unset] [(.int (2147483647 : Int32)), (.int p1)])) _
    refine XS.iand X0.here hx rfl (hb hby at_10) rfl ?_
    show Steps p.tables e below (s₁.setTop (mkF m 11 #[.val (.int p0), .val (.int p1), .val (.int (2 : Int32)), .unset, .unset, .unset, .unset, .unset] [(.int (p1 &&& (2147483647 : Int32)))])) _
    refine XS.iconst X0.here hx rfl (hb hby at_11) ?_
    show Steps p.tables e below (s₁.setTop (mkF m 12 #[.val (.int p0), .val (.int p1), .val (.int (2 : Int32)), .unset, .unset, .unset, .unset, .unset] [(.int (5 : Int32)), (.int (p1 &&& (2147483647 : Int32)))])) _
    refine iremM X0 hx rfl (hb hby at_12) rfl (by decide) ?_
    show Steps p.tables e below (s₁.setTop (mkF m 13 #[.val (.int p0), .val (.int p1), .val (.int (2 : Int32)), .unset, .unset, .unset, .unset, .unset] [(.int ((p1 &&& (2147483647 : Int32)) % (5 : Int32)))])) _
    rw [hk1]
    show Steps p.tables e below (s₁.setTop (mkF m 13 #[.val (.int p0), .val (.int p1), .val (.int (2 : Int32)), .unset, .unset, .unset, .unset, .unset] [(.int (2 : Int32))])) _
    refine XS.istoreN X0.here hx rfl (hb hby at_13) rfl (l' := #[.val (.int p0), .val (.int p1), .val (.int (2 : Int32)), .val (.int (2 : Int32)), .unset, .unset, .unset, .unset]) rfl ?_
    show Steps p.tables e below (s₁.setTop (mkF m 14 #[.val (.int p0), .val (.int p1), .val (.int (2 : Int32)), .val (.int (2 : Int32)), .unset, .unset, .unset, .unset] [])) _
    refine XS.iloadN X0.here hx rfl (hb hby at_14) rfl ?_
    show Steps p.tables e below (s₁.setTop (mkF m 15 #[.val (.int p0), .val (.int p1), .val (.int (2 : Int32)), .val (.int (2 : Int32)), .unset, .unset, .unset, .unset] [(.int (2 : Int32))])) _
    refine st1 _ ?_
    show Steps p.tables e below (T1.setTop (mkF m 18 #[.val (.int p0), .val (.int p1), .val (.int (2 : Int32)), .val (.int (2 : Int32)), .unset, .unset, .unset, .unset] [(.ref a_INCREMENT)])) _
    refine XS.astore X1.here hx rfl (hb hby at_18) rfl rfl (l' := #[.val (.int p0), .val (.int p1), .val (.int (2 : Int32)), .val (.int (2 : Int32)), .val (.ref a_INCREMENT), .unset, .unset, .unset]) rfl ?_
    show Steps p.tables e below (T1.setTop (mkF m 20 #[.val (.int p0), .val (.int p1), .val (.int (2 : Int32)), .val (.int (2 : Int32)), .val (.ref a_INCREMENT), .unset, .unset, .unset] [])) _
    refine XS.iloadN X1.here hx rfl (hb hby at_20) rfl ?_
    show Steps p.tables e below (T1.setTop (mkF m 21 #[.val (.int p0), .val (.int p1), .val (.int (2 : Int32)), .val (.int (2 : Int32)), .val (.ref a_INCREMENT), .unset, .unset, .unset] [(.int (2 : Int32))])) _
    refine st2 _ ?_
    show Steps p.tables e below (T2.setTop (mkF m 24 #[.val (.int p0), .val (.int p1), .val (.int (2 : Int32)), .val (.int (2 : Int32)), .val (.ref a_INCREMENT), .unset, .unset, .unset] [(.ref a_INCREMENT)])) _
    refine XS.astore X2.here hx rfl (hb hby at_24) rfl rfl (l' := #[.val (.int p0), .val (.int p1), .val (.int (2 : Int32)), .val (.int (2 : Int32)), .val (.ref a_INCREMENT), .val (.ref a_INCREMENT), .unset, .unset]) rfl ?_
    show Steps p.tables e below (T2.setTop (mkF m 26 #[.val (.int p0), .val (.int p1), .val (.int (2 : Int32)), .val (.int (2 : Int32)), .val (.ref a_INCREMENT), .val (.ref a_INCREMENT), .unset, .unset] [])) _
    refine st3 _ ?_
    show Steps p.tables e below (T3.setTop (mkF m 151 #[.val (.int p0), .val (.int p1), .val (.int (2 : Int32)), .val (.int (2 : Int32)), .val (.ref a_INCREMENT), .val (.ref a_INCREMENT), .val (.ref b3), .unset] [])) _
    refine XS.aload X3.here hx rfl (hb hby at_151) rfl rfl ?_
    show Steps p.tables e below (T3.setTop (mkF m 153 #[.val (.int p0), .val (.int p1), .val (.int (2 : Int32)), .val (.int (2 : Int32)), .val (.ref a_INCREMENT), .val (.ref a_INCREMENT), .val (.ref b3), .unset] [(.ref b3)])) _
    refine XS.iloadN X3.here hx rfl (hb hby at_153) rfl ?_
    show Steps p.tables e below (T3.setTop (mkF m 154 #[.val (.int p0), .val (.int p1), .val (.int (2 : Int32)), .val (.int (2 : Int32)), .val (.ref a_INCREMENT), .val (.ref a_INCREMENT), .val (.ref b3), .unset] [(.int (2 : Int32)), (.ref b3)])) _
    refine XS.iconst X3.here hx rfl (hb hby at_154) ?_
    show Steps p.tables e below (T3.setTop (mkF m 155 #[.val (.int p0), .val (.int p1), .val (.int (2 : Int32)), .val (.int (2 : Int32)), .val (.ref a_INCREMENT), .val (.ref a_INCREMENT), .val (.ref b3), .unset] [(.int (5 : Int32)), (.int (2 : Int32)), (.ref b3)])) _
    refine XS.imul X3.here hx rfl (hb hby at_155) rfl ?_
    show Steps p.tables e below (T3.setTop (mkF m 156 #[.val (.int p0), .val (.int p1), .val (.int (2 : Int32)), .val (.int (2 : Int32)), .val (.ref a_INCREMENT), .val (.ref a_INCREMENT), .val (.ref b3), .unset] [(.int ((2 : Int32) * (5 : Int32))), (.ref b3)])) _
    rw [(by decide : ((2 : Int32) * (5 : Int32)) = (10 : Int32))]
    show Steps p.tables e below (T3.setTop (mkF m 156 #[.val (.int p0), .val (.int p1), .val (.int (2 : Int32)), .val (.int (2 : Int32)), .val (.ref a_INCREMENT), .val (.ref a_INCREMENT), .val (.ref b3), .unset] [(.int (10 : Int32)), (.ref b3)])) _
    refine XS.iloadN X3.here hx rfl (hb hby at_156) rfl ?_
    show Steps p.tables e below (T3.setTop (mkF m 157 #[.val (.int p0), .val (.int p1), .val (.int (2 : Int32)), .val (.int (2 : Int32)), .val (.ref a_INCREMENT), .val (.ref a_INCREMENT), .val (.ref b3), .unset] [(.int (2 : Int32)), (.int (10 : Int32)), (.ref b3)])) _
    refine XS.iadd X3.here hx rfl (hb hby at_157) rfl ?_
    show Steps p.tables e below (T3.setTop (mkF m 158 #[.val (.int p0), .val (.int p1), .val (.int (2 : Int32)), .val (.int (2 : Int32)), .val (.ref a_INCREMENT), .val (.ref a_INCREMENT), .val (.ref b3), .unset] [(.int ((10 : Int32) + (2 : Int32))), (.ref b3)])) _
    rw [(by decide : ((10 : Int32) + (2 : Int32)) = (12 : Int32))]
    show Steps p.tables e below (T3.setTop (mkF m 158 #[.val (.int p0), .val (.int p1), .val (.int (2 : Int32)), .val (.int (2 : Int32)), .val (.ref a_INCREMENT), .val (.ref a_INCREMENT), .val (.ref b3), .unset] [(.int (12 : Int32)), (.ref b3)])) _
    refine X3.baloadBooleans hx (j := (12 : Int32)) (v := (.int (0 : Int32))) (by rw [e3]; exact r4.1) (State.isArrayOf_alike hZ.alike r4.2.1) r4.2.2 i4 y4 (g := (mkF m 158 #[.val (.int p0), .val (.int p1), .val (.int (2 : Int32)), .val (.int (2 : Int32)), .val (.ref a_INCREMENT), .val (.ref a_INCREMENT), .val (.ref b3), .unset] [(.int (12 : Int32)), (.ref b3)])) rfl rfl (hb hby at_158) _ ?_
    show Steps p.tables e below (T3.setTop (mkF m 159 #[.val (.int p0), .val (.int p1), .val (.int (2 : Int32)), .val (.int (2 : Int32)), .val (.ref a_INCREMENT), .val (.ref a_INCREMENT), .val (.ref b3), .unset] [(.int (0 : Int32))])) _
    refine XS.istore X3.here hx rfl (hb hby at_159) rfl (l' := #[.val (.int p0), .val (.int p1), .val (.int (2 : Int32)), .val (.int (2 : Int32)), .val (.ref a_INCREMENT), .val (.ref a_INCREMENT), .val (.ref b3), .val (.int (0 : Int32))]) rfl ?_
    show Steps p.tables e below (T3.setTop (mkF m 161 #[.val (.int p0), .val (.int p1), .val (.int (2 : Int32)), .val (.int (2 : Int32)), .val (.ref a_INCREMENT), .val (.ref a_INCREMENT), .val (.ref b3), .val (.int (0 : Int32))] [])) _
    refine XS.aload X3.here hx rfl (hb hby at_161) rfl rfl ?_
    show Steps p.tables e below (T3.setTop (mkF m 163 #[.val (.int p0), .val (.int p1), .val (.int (2 : Int32)), .val (.int (2 : Int32)), .val (.ref a_INCREMENT), .val (.ref a_INCREMENT), .val (.ref b3), .val (.int (0 : Int32))] [(.ref a_INCREMENT)])) _
    refine XS.aload X3.here hx rfl (hb hby at_163) rfl rfl ?_
    show Steps p.tables e below (T3.setTop (mkF m 165 #[.val (.int p0), .val (.int p1), .val (.int (2 : Int32)), .val (.int (2 : Int32)), .val (.ref a_INCREMENT), .val (.ref a_INCREMENT), .val (.ref b3), .val (.int (0 : Int32))] [(.ref a_INCREMENT), (.ref a_INCREMENT)])) _
    refine st5.trans ?_
    show Steps p.tables e below (T5.setTop (mkF m 168 #[.val (.int p0), .val (.int p1), .val (.int (2 : Int32)), .val (.int (2 : Int32)), .val (.ref a_INCREMENT), .val (.ref a_INCREMENT), .val (.ref b3), .val (.int (0 : Int32))] [(.int (0 : Int32))])) _
    refine XS.iload X5.here hx rfl (hb hby at_168) rfl ?_
    show Steps p.tables e below (T5.setTop (mkF m 170 #[.val (.int p0), .val (.int p1), .val (.int (2 : Int32)), .val (.int (2 : Int32)), .val (.ref a_INCREMENT), .val (.ref a_INCREMENT), .val (.ref b3), .val (.int (0 : Int32))] [(.int (0 : Int32)), (.int (0 : Int32))])) _
    refine XS.icmpNo X5.here hx rfl (hb hby at_170) rfl (by decide) ?_
    show Steps p.tables e below (T5.setTop (mkF m 173 #[.val (.int p0), .val (.int p1), .val (.int (2 : Int32)), .val (.int (2 : Int32)), .val (.ref a_INCREMENT), .val (.ref a_INCREMENT), .val (.ref b3), .val (.int (0 : Int32))] [])) _
    refine XS.iconst X5.here hx rfl (hb hby at_173) ?_
    show Steps p.tables e below (T5.setTop (mkF m 174 #[.val (.int p0), .val (.int p1), .val (.int (2 : Int32)), .val (.int (2 : Int32)), .val (.ref a_INCREMENT), .val (.ref a_INCREMENT), .val (.ref b3), .val (.int (0 : Int32))] [(.int (1 : Int32))])) _
    refine XS.goto X5.here hx rfl (pc0 := 174) (pc' := 178) rfl (hb hby at_174) (by decide) (by decide) ?_
    show Steps p.tables e below (T5.setTop (mkF m 178 #[.val (.int p0), .val (.int p1), .val (.int (2 : Int32)), .val (.int (2 : Int32)), .val (.ref a_INCREMENT), .val (.ref a_INCREMENT), .val (.ref b3), .val (.int (0 : Int32))] [(.int (1 : Int32))])) _
    exact retN X5 hx (t := .boolean) Bd.returns (by simp) (hb hby at_178) hr
  · exact ⟨rfl, N5⟩
set_option maxRecDepth 65536 in
set_option maxHeartbeats 40000000 in
theorem rm2_13 (l : Launch) (Z : State) (a0 : Array Value) (hw : ∀ d ∈ tables_1, d.before a0 Z = true) (ws : List Jvm.Cond) (p0 p1 : Int32) (a_READ a_COMMIT a_ABORT a_WRITE a_INCREMENT : Addr) (h0 : Heap) (n0 : Nat) (Z0 : n0 ≤ h0.size) (FF : Facts Z h0 a_READ a_COMMIT a_ABORT a_WRITE a_INCREMENT) :
    MetFree l (⟨"com/example/schedulock/schedulock/schedule/OperationKind", "conflictsWith", "(Lcom/example/schedulock/schedulock/schedule/OperationKind;)Z"⟩ : MethodName) (head1 (Jvm.Cond.code (⟨"com/example/schedulock/schedulock/schedule/OperationKind", "conflictsWith", "(Lcom/example/schedulock/schedulock/schedule/OperationKind;)Z"⟩ : MethodName) prog_31_method_5_code 2 (some .boolean) :: ws) ({ frames := 0, cells := 0, slots := 0, locals := 0 } : Room)) (fun a U => a = #[(.ref a_INCREMENT), (.ref a_COMMIT)] ∧ Z.Warmed39 U.vm ∧ U.heap = h0) (fun _ _ _ _ _ => True) (fun _ U o U' => ∃ v L, o = .returned v ∧ own_Q (.int (0 : Int32)) h0 n0 v U'.heap L ∧ FrameEnd U o U' L ({ frames := 0, cells := 0, slots := 0, locals := 0 } : Room).cells ({ frames := 0, cells := 0, slots := 0, locals := 0 } : Room).slots) := by
  refine MetFree.of_bodySF (plainFor_of_name pn_2) hisR ?_
  intro p e s m args below meth c s₁ Bd hml0 hP hK
  obtain ⟨rfl, hZ, hh⟩ := hP
  have hx := Bd.exec
  have hby := Bd.bytes
  have hml : c.maxLocals = 2 := hml0
  have hown : s.vm.findClass "com/example/schedulock/schedulock/schedule/OperationKind" = some m.cls := findClass_of_methodNamed Bd.named
  have X0 : Stand p l e ({ frames := 0, cells := 0, slots := 0, locals := 0 } : Room) s m #[(.ref a_INCREMENT), (.ref a_COMMIT)] below meth c s₁ [] 0 0 := Stand.of_body Bd
  have e0 : s₁.heap = h0 := by rw [← hh, Bd.state]; rfl
  have N0 := Fr.nil n0
  have pre0 : ∀ t, Steps p.tables e below (s₁.setTop (mkF m 0 #[.val (.ref a_INCREMENT), .val (.ref a_COMMIT)] [])) t → Steps p.tables e below (s₁.setTop (entryFrame m #[(.ref a_INCREMENT), (.ref a_COMMIT)] 2)) t := fun t k => castTop (ef_2 m a_INCREMENT a_COMMIT) k
  obtain ⟨T1, X1, e1, st1⟩ := getF X0 hx hZ hown (host := "") (Or.inl (hw _ (List.mem_of_getElem? (i := 16) rfl))) Via.refl e0 (fx_F_INCREMENT_takesItem FF) (g := (mkF m 1 #[.val (.ref a_INCREMENT), .val (.ref a_COMMIT)] [(.ref a_INCREMENT)])) rfl rfl (hb hby d2_1)
  obtain ⟨T2, X2, e2, st2⟩ := getF X1 hx hZ hown (host := "") (Or.inl (hw _ (List.mem_of_getElem? (i := 16) rfl))) Via.refl e1 (fx_F_COMMIT_takesItem FF) (g := (mkF m 8 #[.val (.ref a_INCREMENT), .val (.ref a_COMMIT)] [(.ref a_COMMIT)])) rfl rfl (hb hby d2_8)
  obtain ⟨fs, hr, hrun, hended, hW, hsame⟩ := X2.leave (v := some (.int (0 : Int32))) (fun h => by rw [Bd.returns] at h; cases h)
  refine ⟨_, _, pre0 _ ?_, hrun, hended, _, _, rfl, ?_, ⟨_, rfl⟩, hW, hsame.mono (by decide) (by decide)⟩
  · show Steps p.tables e below (s₁.setTop (mkF m 0 #[.val (.ref a_INCREMENT), .val (.ref a_COMMIT)] [])) _
    refine XS.aloadN X0.here hx rfl (hb hby d2_0) rfl rfl ?_
    show Steps p.tables e below (s₁.setTop (mkF m 1 #[.val (.ref a_INCREMENT), .val (.ref a_COMMIT)] [(.ref a_INCREMENT)])) _
    refine st1 _ ?_
    show Steps p.tables e below (T1.setTop (mkF m 4 #[.val (.ref a_INCREMENT), .val (.ref a_COMMIT)] [(.int (1 : Int32))])) _
    refine XS.ifNo X1.here hx rfl (hb hby d2_4) rfl (by decide) ?_
    show Steps p.tables e below (T1.setTop (mkF m 7 #[.val (.ref a_INCREMENT), .val (.ref a_COMMIT)] [])) _
    refine XS.aloadN X1.here hx rfl (hb hby d2_7) rfl rfl ?_
    show Steps p.tables e below (T1.setTop (mkF m 8 #[.val (.ref a_INCREMENT), .val (.ref a_COMMIT)] [(.ref a_COMMIT)])) _
    refine st2 _ ?_
    show Steps p.tables e below (T2.setTop (mkF m 11 #[.val (.ref a_INCREMENT), .val (.ref a_COMMIT)] [(.int (0 : Int32))])) _
    refine XS.ifYes X2.here hx rfl (pc0 := 11) (pc' := 30) rfl (hb hby d2_11) rfl (by decide) (by decide) (by decide) ?_
    show Steps p.tables e below (T2.setTop (mkF m 30 #[.val (.ref a_INCREMENT), .val (.ref a_COMMIT)] [])) _
    refine XS.iconst X2.here hx rfl (hb hby d2_30) ?_
    show Steps p.tables e below (T2.setTop (mkF m 31 #[.val (.ref a_INCREMENT), .val (.ref a_COMMIT)] [(.int (0 : Int32))])) _
    exact retN X2 hx (t := .boolean) Bd.returns (by simp) (hb hby d2_31) hr
  · show own_Q _ _ _ _ T2.heap _
    exact ⟨rfl, N0, e2⟩
set_option maxRecDepth 65536 in
set_option maxHeartbeats 40000000 in
theorem rm0_13 (l : Launch) (Z : State) (a0 : Array Value) (hw : ∀ d ∈ tables_1, d.before a0 Z = true) (ws : List Jvm.Cond) (p0 p1 : Int32) (a_READ a_COMMIT a_ABORT a_WRITE a_INCREMENT : Addr) (h0 : Heap) (n0 : Nat) (Z0 : n0 ≤ h0.size) (FF : Facts Z h0 a_READ a_COMMIT a_ABORT a_WRITE a_INCREMENT) (hk0 : ((p0 &&& (2147483647 : Int32)) % (5 : Int32)) = (2 : Int32)) (hk1 : ((p1 &&& (2147483647 : Int32)) % (5 : Int32)) = (3 : Int32)) :
    MetFree l x (head1 (Jvm.Cond.code x code maxLocals ret :: ws) room_1) (fun a U => a = #[(.int p0), (.int p1)] ∧ Z.Warmed39 U.vm ∧ U.heap = h0) (fun _ _ _ _ _ => True) (fun _ U o U' => ∃ v L, o = .returned v ∧ (v = some (.int (1 : Int32)) ∧ Fr n0 L) ∧ FrameEnd U o U' L room_1.cells room_1.slots) := by
  refine MetFree.of_bodySF (plainFor_of_name pn_0) hisR ?_
  intro p e s m args below meth c s₁ Bd hml0 hP hK
  obtain ⟨rfl, hZ, hh⟩ := hP
  have hx := Bd.exec
  have hby := Bd.bytes
  have hml : c.maxLocals = 8 := hml0
  have hown : s.vm.findClass "com/example/schedulock/schedulock/schedule/OperationKindConflictsWithPinLaw" = some m.cls := findClass_of_methodNamed Bd.named
  have X0 : Stand p l e room_1 s m #[(.int p0), (.int p1)] below meth c s₁ [] 0 0 := Stand.of_body Bd
  have e0 : s₁.heap = h0 := by rw [← hh, Bd.state]; rfl
  have N0 := Fr.nil n0
  have pre0 : ∀ t, Steps p.tables e below (s₁.setTop (mkF m 0 #[.val (.int p0), .val (.int p1), .unset, .unset, .unset, .unset, .unset, .unset] [])) t → Steps p.tables e below (s₁.setTop (entryFrame m #[(.int p0), (.int p1)] maxLocals)) t := fun t k => castTop (ef_0 m p0 p1) k
  obtain ⟨_, _, ⟨T1, L1, k1, n1⟩, -, X1, ⟨Lc1, hQ1, l1, y1, z1⟩, st1⟩ := Jvm.LawKit.callS X0 hx (y := (⟨"com/example/schedulock/schedulock/schedule/OperationKindConflictsWithPinLaw", "kind", "(I)Lcom/example/schedulock/schedulock/schedule/OperationKind;"⟩ : MethodName)) hown (mvT hZ (hw _ (List.mem_of_getElem? (i := 1) rfl))) (mvT hZ (hw _ (List.mem_of_getElem? (i := 2) rfl))) (mvT hZ (hw _ (List.mem_of_getElem? (i := 3) rfl))) (mvT hZ (hw _ (List.mem_of_getElem? (i := 4) rfl))) (by decide) (backOf (W := 0) (rm1_2 l Z a0 hw [] p0 p1 a_READ a_COMMIT a_ABORT a_WRITE a_INCREMENT h0 n0 (Nat.le_trans Z0 (Nat.le_refl _)) FF) hZ (hw _ (List.mem_of_getElem? (i := 4) rfl)) (hw _ (List.mem_of_getElem? (i := 3) rfl)) (by decide) (by decide)) (g := (mkF m 15 #[.val (.int p0), .val (.int p1), .val (.int (2 : Int32)), .val (.int (3 : Int32)), .unset, .unset, .unset, .unset] [(.int (2 : Int32))])) rfl (by rw [hml]; rfl) (argsL := [(.int (2 : Int32))]) (rest := []) (lenOf pd_0 rfl) rfl (by show 2 * 0 + _ ≤ _; exact Nat.le_of_eq rfl) (hb hby at_15) (fun _ _ => ⟨rfl, e0, (by decide : 0 + 0 ≤ _), (by decide : 0 + 0 ≤ _)⟩)
  dsimp only [Pt.U, Pt.locs, Pt.cells, Pt.slots] at X1 l1 y1 z1 st1 hQ1
  subst l1 y1 z1
  obtain ⟨rfl, N1q, e1⟩ := hQ1
  have N1 := Fr.app N0 N1q
  obtain ⟨_, _, ⟨T2, L2, k2, n2⟩, -, X2, ⟨Lc2, hQ2, l2, y2, z2⟩, st2⟩ := Jvm.LawKit.callS X1 hx (y := (⟨"com/example/schedulock/schedulock/schedule/OperationKindConflictsWithPinLaw", "kind", "(I)Lcom/example/schedulock/schedulock/schedule/OperationKind;"⟩ : MethodName)) hown (mvT hZ (hw _ (List.mem_of_getElem? (i := 1) rfl))) (mvT hZ (hw _ (List.mem_of_getElem? (i := 2) rfl))) (mvT hZ (hw _ (List.mem_of_getElem? (i := 3) rfl))) (mvT hZ (hw _ (List.mem_of_getElem? (i := 4) rfl))) (by decide) (backOf (W := 0) (rm1_3 l Z a0 hw [] p0 p1 a_READ a_COMMIT a_ABORT a_WRITE a_INCREMENT h0 n0 (Nat.le_trans Z0 (Nat.le_refl _)) FF) hZ (hw _ (List.mem_of_getElem? (i := 4) rfl)) (hw _ (List.mem_of_getElem? (i := 3) rfl)) (by decide) (by decide)) (g := (mkF m 21 #[.val (.int p0), .val (.int p1), .val (.int (2 : Int32)), .val (.int (3 : Int32)), .val (.ref a_INCREMENT), .unset, .unset, .unset] [(.int (3 : Int32))])) rfl (by rw [hml]; rfl) (argsL := [(.int (3 : Int32))]) (rest := []) (lenOf pd_0 rfl) rfl (by show 2 * 0 + _ ≤ _; exact Nat.le_of_eq rfl) (hb hby at_21) (fun _ _ => ⟨rfl, e1, (by decide : 0 + 0 ≤ _), (by decide : 0 + 0 ≤ _)⟩)
  dsimp only [Pt.U, Pt.locs, Pt.cells, Pt.slots] at X2 l2 y2 z2 st2 hQ2
  subst l2 y2 z2
  obtain ⟨rfl, N2q, e2⟩ := hQ2
  have N2 := Fr.app N1 N2q
  obtain ⟨T3, h3, b3, k3, lc3, X3, e3, s_b3, z3, N3, FF3, V3, st3⟩ := seg_0 (l := l) (Z := Z) hw a_READ a_COMMIT a_ABORT a_WRITE a_INCREMENT p0 p1 (2 : Int32) (3 : Int32) a_INCREMENT a_COMMIT X2 hx hZ hby hml hown e2 Z0 N2 FF
  obtain ⟨c4, r4, -, S4, -, H4, -⟩ := V3
  have i4 : ¬ ((13 : Int32) < 0 ∨ c4.slots.size ≤ ((13 : Int32)).toNatClampNeg) := inb_of S4 ⟨by decide, by decide⟩
  have y4 : c4.slots[((13 : Int32)).toNatClampNeg]? = some (.int (0 : Int32)) := H4 13 (by rw [S4]; decide)
  obtain ⟨cq5, kq5, q5a, q5b, q5c⟩ := isOf hZ e3 (fx_E_INCREMENT FF3)
  obtain ⟨_, _, ⟨T5, L5, k5, n5⟩, -, X5, ⟨Lc5, hQ5, l5, y5, z5⟩, st5⟩ := X3.virtualBack hx (y := (⟨"com/example/schedulock/schedulock/schedule/OperationKind", "conflictsWith", "(Lcom/example/schedulock/schedulock/schedule/OperationKind;)Z"⟩ : MethodName)) (z := (⟨"com/example/schedulock/schedulock/schedule/OperationKind", "conflictsWith", "(Lcom/example/schedulock/schedulock/schedule/OperationKind;)Z"⟩ : MethodName)) hown (mvT hZ (hw _ (List.mem_of_getElem? (i := 11) rfl))) (mvT hZ (hw _ (List.mem_of_getElem? (i := 12) rfl))) (notFace_of_selects (args := #[]) (mvT hZ (hw _ (List.mem_of_getElem? (i := 14) rfl)))) (mvT hZ (hw _ (List.mem_of_getElem? (i := 14) rfl))) (mvT hZ (hw _ (List.mem_of_getElem? (i := 13) rfl))) (by decide) (backOf (W := 0) (rm2_13 l Z a0 hw [] p0 p1 a_READ a_COMMIT a_ABORT a_WRITE a_INCREMENT h3 n0 (Nat.le_trans Z0 z3) FF3) hZ (hw _ (List.mem_of_getElem? (i := 15) rfl)) (hw _ (List.mem_of_getElem? (i := 6) rfl)) (by decide) (by decide)) q5a q5c (g := (mkF m 165 #[.val (.int p0), .val (.int p1), .val (.int (2 : Int32)), .val (.int (3 : Int32)), .val (.ref a_INCREMENT), .val (.ref a_COMMIT), .val (.ref b3), .val (.int (0 : Int32))] [(.ref a_COMMIT), (.ref a_INCREMENT)])) rfl (by rw [hml]; rfl) (Steps.refl _) (argsL := [(.ref a_COMMIT)]) (rest := []) (lenOf pd_1 rfl) rfl (by show 2 * 0 + _ ≤ _; exact Nat.le_of_eq rfl) (hb hby at_165) (fun _ _ => ⟨rfl, e3, (by decide : 1 + 0 ≤ _), (by decide : 25 + 0 ≤ _)⟩)
  dsimp only [Pt.U, Pt.locs, Pt.cells, Pt.slots] at X5 l5 y5 z5 st5 hQ5
  subst l5 y5 z5
  obtain ⟨rfl, N5q, e5⟩ := hQ5
  have N5 := Fr.app N3 N5q
  obtain ⟨fs, hr, hrun, hended, hW, hsame⟩ := X5.leave (v := some (.int (1 : Int32))) (fun h => by rw [Bd.returns] at h; cases h)
  refine ⟨_, _, pre0 _ ?_, hrun, hended, _, _, rfl, ?_, ⟨_, rfl⟩, hW, hsame.mono (by decide) (by decide)⟩
  · show Steps p.tables e below (s₁.setTop (mkF m 0 #[.val (.int p0), .val (.int p1), .unset, .unset, .unset, .unset, .unset, .unset] [])) _
    refine XS.iloadN X0.here hx rfl (hb hby at_0) rfl ?_
    show Steps p.tables e below (s₁.setTop (mkF m 1 #[.val (.int p0), .val (.int p1), .unset, .unset, .unset, .unset, .unset, .unset] [(.int p0)])) _
    refine X0.ldcInt hx hown (mvT hZ (hw _ (List.mem_of_getElem? (i := 0) rfl))) (g := (mkF m 1 #[.val (.int p0), .val (.int p1), .unset, .unset, .unset, .unset, .unset, .unset] [(.int p0)])) rfl (hb hby at_1) _ ?_
    show Steps p.tables e below (s₁.setTop (mkF m 3 #[.val (.int p0), .val (.int p1), .unset, .unset, .unset, .unset, .unset, .unset] [(.int (2147483647 : Int32)), (.int p0)])) _
    refine XS.iand X0.here hx rfl (hb hby at_3) rfl ?_
    show Steps p.tables e below (s₁.setTop (mkF m 4 #[.val (.int p0), .val (.int p1), .unset, .unset, .unset, .unset, .unset, .unset] [(.int (p0 &&& (2147483647 : Int32)))])) _
    refine XS.iconst X0.here hx rfl (hb hby at_4) ?_
    show Steps p.tables e below (s₁.setTop (mkF m 5 #[.val (.int p0), .val (.int p1), .unset, .unset, .unset, .unset, .unset, .unset] [(.int (5 : Int32)), (.int (p0 &&& (2147483647 : Int32)))])) _
    refine iremM X0 hx rfl (hb hby at_5) rfl (by decide) ?_
    show Steps p.tables e below (s₁.setTop (mkF m 6 #[.val (.int p0), .val (.int p1), .unset, .unset, .unset, .unset, .unset, .unset] [(.int ((p0 &&& (2147483647 : Int32)) % (5 : Int32)))])) _
    rw [hk0]
    show Steps p.tables e below (s₁.setTop (mkF m 6 #[.val (.int p0), .val (.int p1), .unset, .unset, .unset, .unset, .unset, .unset] [(.int (2 : Int32))])) _
    refine XS.istoreN X0.here hx rfl (hb hby at_6) rfl (l' := #[.val (.int p0), .val (.int p1), .val (.int (2 : Int32)), .unset, .unset, .unset, .unset, .unset]) rfl ?_
    show Steps p.tables e below (s₁.setTop (mkF m 7 #[.val (.int p0), .val (.int p1), .val (.int (2 : Int32)), .unset, .unset, .unset, .unset, .unset] [])) _
    refine XS.iloadN X0.here hx rfl (hb hby at_7) rfl ?_
    show Steps p.tables e below (s₁.setTop (mkF m 8 #[.val (.int p0), .val (.int p1), .val (.int (2 : Int32)), .unset, .unset, .unset, .unset, .unset] [(.int p1)])) _
    refine X0.ldcInt hx hown (mvT hZ (hw _ (List.mem_of_getElem? (i := 0) rfl))) (g := (mkF m 8 #[.val (.int p0), .val (.int p1), .val (.int (2 : Int32)), .unset, .unset, .unset, .unset, .unset] [(.int p1)])) rfl (hb hby at_8) _ ?_
    show Steps p.tables e below (s₁.setTop (mkF m 10 #[.val (.int p0), .val (.int p1), .val (.int (2 : Int32)), .unset, .unset, .unset, .unset, .unset] [(.int (2147483647 : Int32)), (.int p1)])) _
    refine XS.iand X0.here hx rfl (hb hby at_10) rfl ?_
    show Steps p.tables e below (s₁.setTop (mkF m 11 #[.val (.int p0), .val (.int p1), .val (.int (2 : Int32)), .unset, .unset, .unset, .unset, .unset] [(.int (p1 &&& (2147483647 : Int32)))])) _
    refine XS.iconst X0.here hx rfl (hb hby at_11) ?_
    show Steps p.tables e below (s₁.setTop (mkF m 12 #[.val (.int p0), .val (.int p1), .val (.int (2 : Int32)), .unset, .unset, .unset, .unset, .unset] [(.int (5 : Int32)), (.int (p1 &&& (2147483647 : Int32)))])) _
    refine iremM X0 hx rfl (hb hby at_12) rfl (by decide) ?_
    show Steps p.tables e below (s₁.setTop (mkF m 13 #[.val (.int p0), .val (.int p1), .val (.int (2 : Int32)), .unset, .unset, .unset, .unset, .unset] [(.int ((p1 &&& (2147483647 : Int32)) % (5 : Int32)))])) _
    rw [hk1]
    show Steps p.tables e below (s₁.setTop (mkF m 13 #[.val (.int p0), .val (.int p1), .val (.int (2 : Int32)), .unset, .unset, .unset, .unset, .unset] [(.int (3 : Int32))])) _
    refine XS.istoreN X0.here hx rfl (hb hby at_13) rfl (l' := #[.val (.int p0), .val (.int p1), .val (.int (2 : Int32)), .val (.int (3 : Int32)), .unset, .unset, .unset, .unset]) rfl ?_
    show Steps p.tables e below (s₁.setTop (mkF m 14 #[.val (.int p0), .val (.int p1), .val (.int (2 : Int32)), .val (.int (3 : Int32)), .unset, .unset, .unset, .unset] [])) _
    refine XS.iloadN X0.here hx rfl (hb hby at_14) rfl ?_
    show Steps p.tables e below (s₁.setTop (mkF m 15 #[.val (.int p0), .val (.int p1), .val (.int (2 : Int32)), .val (.int (3 : Int32)), .unset, .unset, .unset, .unset] [(.int (2 : Int32))])) _
    refine st1 _ ?_
    show Steps p.tables e below (T1.setTop (mkF m 18 #[.val (.int p0), .val (.int p1), .val (.int (2 : Int32)), .val (.int (3 : Int32)), .unset, .unset, .unset, .unset] [(.ref a_INCREMENT)])) _
    refine XS.astore X1.here hx rfl (hb hby at_18) rfl rfl (l' := #[.val (.int p0), .val (.int p1), .val (.int (2 : Int32)), .val (.int (3 : Int32)), .val (.ref a_INCREMENT), .unset, .unset, .unset]) rfl ?_
    show Steps p.tables e below (T1.setTop (mkF m 20 #[.val (.int p0), .val (.int p1), .val (.int (2 : Int32)), .val (.int (3 : Int32)), .val (.ref a_INCREMENT), .unset, .unset, .unset] [])) _
    refine XS.iloadN X1.here hx rfl (hb hby at_20) rfl ?_
    show Steps p.tables e below (T1.setTop (mkF m 21 #[.val (.int p0), .val (.int p1), .val (.int (2 : Int32)), .val (.int (3 : Int32)), .val (.ref a_INCREMENT), .unset, .unset, .unset] [(.int (3 : Int32))])) _
    refine st2 _ ?_
    show Steps p.tables e below (T2.setTop (mkF m 24 #[.val (.int p0), .val (.int p1), .val (.int (2 : Int32)), .val (.int (3 : Int32)), .val (.ref a_INCREMENT), .unset, .unset, .unset] [(.ref a_COMMIT)])) _
    refine XS.astore X2.here hx rfl (hb hby at_24) rfl rfl (l' := #[.val (.int p0), .val (.int p1), .val (.int (2 : Int32)), .val (.int (3 : Int32)), .val (.ref a_INCREMENT), .val (.ref a_COMMIT), .unset, .unset]) rfl ?_
    show Steps p.tables e below (T2.setTop (mkF m 26 #[.val (.int p0), .val (.int p1), .val (.int (2 : Int32)), .val (.int (3 : Int32)), .val (.ref a_INCREMENT), .val (.ref a_COMMIT), .unset, .unset] [])) _
    refine st3 _ ?_
    show Steps p.tables e below (T3.setTop (mkF m 151 #[.val (.int p0), .val (.int p1), .val (.int (2 : Int32)), .val (.int (3 : Int32)), .val (.ref a_INCREMENT), .val (.ref a_COMMIT), .val (.ref b3), .unset] [])) _
    refine XS.aload X3.here hx rfl (hb hby at_151) rfl rfl ?_
    show Steps p.tables e below (T3.setTop (mkF m 153 #[.val (.int p0), .val (.int p1), .val (.int (2 : Int32)), .val (.int (3 : Int32)), .val (.ref a_INCREMENT), .val (.ref a_COMMIT), .val (.ref b3), .unset] [(.ref b3)])) _
    refine XS.iloadN X3.here hx rfl (hb hby at_153) rfl ?_
    show Steps p.tables e below (T3.setTop (mkF m 154 #[.val (.int p0), .val (.int p1), .val (.int (2 : Int32)), .val (.int (3 : Int32)), .val (.ref a_INCREMENT), .val (.ref a_COMMIT), .val (.ref b3), .unset] [(.int (2 : Int32)), (.ref b3)])) _
    refine XS.iconst X3.here hx rfl (hb hby at_154) ?_
    show Steps p.tables e below (T3.setTop (mkF m 155 #[.val (.int p0), .val (.int p1), .val (.int (2 : Int32)), .val (.int (3 : Int32)), .val (.ref a_INCREMENT), .val (.ref a_COMMIT), .val (.ref b3), .unset] [(.int (5 : Int32)), (.int (2 : Int32)), (.ref b3)])) _
    refine XS.imul X3.here hx rfl (hb hby at_155) rfl ?_
    show Steps p.tables e below (T3.setTop (mkF m 156 #[.val (.int p0), .val (.int p1), .val (.int (2 : Int32)), .val (.int (3 : Int32)), .val (.ref a_INCREMENT), .val (.ref a_COMMIT), .val (.ref b3), .unset] [(.int ((2 : Int32) * (5 : Int32))), (.ref b3)])) _
    rw [(by decide : ((2 : Int32) * (5 : Int32)) = (10 : Int32))]
    show Steps p.tables e below (T3.setTop (mkF m 156 #[.val (.int p0), .val (.int p1), .val (.int (2 : Int32)), .val (.int (3 : Int32)), .val (.ref a_INCREMENT), .val (.ref a_COMMIT), .val (.ref b3), .unset] [(.int (10 : Int32)), (.ref b3)])) _
    refine XS.iloadN X3.here hx rfl (hb hby at_156) rfl ?_
    show Steps p.tables e below (T3.setTop (mkF m 157 #[.val (.int p0), .val (.int p1), .val (.int (2 : Int32)), .val (.int (3 : Int32)), .val (.ref a_INCREMENT), .val (.ref a_COMMIT), .val (.ref b3), .unset] [(.int (3 : Int32)), (.int (10 : Int32)), (.ref b3)])) _
    refine XS.iadd X3.here hx rfl (hb hby at_157) rfl ?_
    show Steps p.tables e below (T3.setTop (mkF m 158 #[.val (.int p0), .val (.int p1), .val (.int (2 : Int32)), .val (.int (3 : Int32)), .val (.ref a_INCREMENT), .val (.ref a_COMMIT), .val (.ref b3), .unset] [(.int ((10 : Int32) + (3 : Int32))), (.ref b3)])) _
    rw [(by decide : ((10 : Int32) + (3 : Int32)) = (13 : Int32))]
    show Steps p.tables e below (T3.setTop (mkF m 158 #[.val (.int p0), .val (.int p1), .val (.int (2 : Int32)), .val (.int (3 : Int32)), .val (.ref a_INCREMENT), .val (.ref a_COMMIT), .val (.ref b3), .unset] [(.int (13 : Int32)), (.ref b3)])) _
    refine X3.baloadBooleans hx (j := (13 : Int32)) (v := (.int (0 : Int32))) (by rw [e3]; exact r4.1) (State.isArrayOf_alike hZ.alike r4.2.1) r4.2.2 i4 y4 (g := (mkF m 158 #[.val (.int p0), .val (.int p1), .val (.int (2 : Int32)), .val (.int (3 : Int32)), .val (.ref a_INCREMENT), .val (.ref a_COMMIT), .val (.ref b3), .unset] [(.int (13 : Int32)), (.ref b3)])) rfl rfl (hb hby at_158) _ ?_
    show Steps p.tables e below (T3.setTop (mkF m 159 #[.val (.int p0), .val (.int p1), .val (.int (2 : Int32)), .val (.int (3 : Int32)), .val (.ref a_INCREMENT), .val (.ref a_COMMIT), .val (.ref b3), .unset] [(.int (0 : Int32))])) _
    refine XS.istore X3.here hx rfl (hb hby at_159) rfl (l' := #[.val (.int p0), .val (.int p1), .val (.int (2 : Int32)), .val (.int (3 : Int32)), .val (.ref a_INCREMENT), .val (.ref a_COMMIT), .val (.ref b3), .val (.int (0 : Int32))]) rfl ?_
    show Steps p.tables e below (T3.setTop (mkF m 161 #[.val (.int p0), .val (.int p1), .val (.int (2 : Int32)), .val (.int (3 : Int32)), .val (.ref a_INCREMENT), .val (.ref a_COMMIT), .val (.ref b3), .val (.int (0 : Int32))] [])) _
    refine XS.aload X3.here hx rfl (hb hby at_161) rfl rfl ?_
    show Steps p.tables e below (T3.setTop (mkF m 163 #[.val (.int p0), .val (.int p1), .val (.int (2 : Int32)), .val (.int (3 : Int32)), .val (.ref a_INCREMENT), .val (.ref a_COMMIT), .val (.ref b3), .val (.int (0 : Int32))] [(.ref a_INCREMENT)])) _
    refine XS.aload X3.here hx rfl (hb hby at_163) rfl rfl ?_
    show Steps p.tables e below (T3.setTop (mkF m 165 #[.val (.int p0), .val (.int p1), .val (.int (2 : Int32)), .val (.int (3 : Int32)), .val (.ref a_INCREMENT), .val (.ref a_COMMIT), .val (.ref b3), .val (.int (0 : Int32))] [(.ref a_COMMIT), (.ref a_INCREMENT)])) _
    refine st5.trans ?_
    show Steps p.tables e below (T5.setTop (mkF m 168 #[.val (.int p0), .val (.int p1), .val (.int (2 : Int32)), .val (.int (3 : Int32)), .val (.ref a_INCREMENT), .val (.ref a_COMMIT), .val (.ref b3), .val (.int (0 : Int32))] [(.int (0 : Int32))])) _
    refine XS.iload X5.here hx rfl (hb hby at_168) rfl ?_
    show Steps p.tables e below (T5.setTop (mkF m 170 #[.val (.int p0), .val (.int p1), .val (.int (2 : Int32)), .val (.int (3 : Int32)), .val (.ref a_INCREMENT), .val (.ref a_COMMIT), .val (.ref b3), .val (.int (0 : Int32))] [(.int (0 : Int32)), (.int (0 : Int32))])) _
    refine XS.icmpNo X5.here hx rfl (hb hby at_170) rfl (by decide) ?_
    show Steps p.tables e below (T5.setTop (mkF m 173 #[.val (.int p0), .val (.int p1), .val (.int (2 : Int32)), .val (.int (3 : Int32)), .val (.ref a_INCREMENT), .val (.ref a_COMMIT), .val (.ref b3), .val (.int (0 : Int32))] [])) _
    refine XS.iconst X5.here hx rfl (hb hby at_173) ?_
    show Steps p.tables e below (T5.setTop (mkF m 174 #[.val (.int p0), .val (.int p1), .val (.int (2 : Int32)), .val (.int (3 : Int32)), .val (.ref a_INCREMENT), .val (.ref a_COMMIT), .val (.ref b3), .val (.int (0 : Int32))] [(.int (1 : Int32))])) _
    refine XS.goto X5.here hx rfl (pc0 := 174) (pc' := 178) rfl (hb hby at_174) (by decide) (by decide) ?_
    show Steps p.tables e below (T5.setTop (mkF m 178 #[.val (.int p0), .val (.int p1), .val (.int (2 : Int32)), .val (.int (3 : Int32)), .val (.ref a_INCREMENT), .val (.ref a_COMMIT), .val (.ref b3), .val (.int (0 : Int32))] [(.int (1 : Int32))])) _
    exact retN X5 hx (t := .boolean) Bd.returns (by simp) (hb hby at_178) hr
  · exact ⟨rfl, N5⟩
set_option maxRecDepth 65536 in
set_option maxHeartbeats 40000000 in
theorem rm2_14 (l : Launch) (Z : State) (a0 : Array Value) (hw : ∀ d ∈ tables_1, d.before a0 Z = true) (ws : List Jvm.Cond) (p0 p1 : Int32) (a_READ a_COMMIT a_ABORT a_WRITE a_INCREMENT : Addr) (h0 : Heap) (n0 : Nat) (Z0 : n0 ≤ h0.size) (FF : Facts Z h0 a_READ a_COMMIT a_ABORT a_WRITE a_INCREMENT) :
    MetFree l (⟨"com/example/schedulock/schedulock/schedule/OperationKind", "conflictsWith", "(Lcom/example/schedulock/schedulock/schedule/OperationKind;)Z"⟩ : MethodName) (head1 (Jvm.Cond.code (⟨"com/example/schedulock/schedulock/schedule/OperationKind", "conflictsWith", "(Lcom/example/schedulock/schedulock/schedule/OperationKind;)Z"⟩ : MethodName) prog_31_method_5_code 2 (some .boolean) :: ws) ({ frames := 0, cells := 0, slots := 0, locals := 0 } : Room)) (fun a U => a = #[(.ref a_INCREMENT), (.ref a_ABORT)] ∧ Z.Warmed39 U.vm ∧ U.heap = h0) (fun _ _ _ _ _ => True) (fun _ U o U' => ∃ v L, o = .returned v ∧ own_Q (.int (0 : Int32)) h0 n0 v U'.heap L ∧ FrameEnd U o U' L ({ frames := 0, cells := 0, slots := 0, locals := 0 } : Room).cells ({ frames := 0, cells := 0, slots := 0, locals := 0 } : Room).slots) := by
  refine MetFree.of_bodySF (plainFor_of_name pn_2) hisR ?_
  intro p e s m args below meth c s₁ Bd hml0 hP hK
  obtain ⟨rfl, hZ, hh⟩ := hP
  have hx := Bd.exec
  have hby := Bd.bytes
  have hml : c.maxLocals = 2 := hml0
  have hown : s.vm.findClass "com/example/schedulock/schedulock/schedule/OperationKind" = some m.cls := findClass_of_methodNamed Bd.named
  have X0 : Stand p l e ({ frames := 0, cells := 0, slots := 0, locals := 0 } : Room) s m #[(.ref a_INCREMENT), (.ref a_ABORT)] below meth c s₁ [] 0 0 := Stand.of_body Bd
  have e0 : s₁.heap = h0 := by rw [← hh, Bd.state]; rfl
  have N0 := Fr.nil n0
  have pre0 : ∀ t, Steps p.tables e below (s₁.setTop (mkF m 0 #[.val (.ref a_INCREMENT), .val (.ref a_ABORT)] [])) t → Steps p.tables e below (s₁.setTop (entryFrame m #[(.ref a_INCREMENT), (.ref a_ABORT)] 2)) t := fun t k => castTop (ef_2 m a_INCREMENT a_ABORT) k
  obtain ⟨T1, X1, e1, st1⟩ := getF X0 hx hZ hown (host := "") (Or.inl (hw _ (List.mem_of_getElem? (i := 16) rfl))) Via.refl e0 (fx_F_INCREMENT_takesItem FF) (g := (mkF m 1 #[.val (.ref a_INCREMENT), .val (.ref a_ABORT)] [(.ref a_INCREMENT)])) rfl rfl (hb hby d2_1)
  obtain ⟨T2, X2, e2, st2⟩ := getF X1 hx hZ hown (host := "") (Or.inl (hw _ (List.mem_of_getElem? (i := 16) rfl))) Via.refl e1 (fx_F_ABORT_takesItem FF) (g := (mkF m 8 #[.val (.ref a_INCREMENT), .val (.ref a_ABORT)] [(.ref a_ABORT)])) rfl rfl (hb hby d2_8)
  obtain ⟨fs, hr, hrun, hended, hW, hsame⟩ := X2.leave (v := some (.int (0 : Int32))) (fun h => by rw [Bd.returns] at h; cases h)
  refine ⟨_, _, pre0 _ ?_, hrun, hended, _, _, rfl, ?_, ⟨_, rfl⟩, hW, hsame.mono (by decide) (by decide)⟩
  · show Steps p.tables e below (s₁.setTop (mkF m 0 #[.val (.ref a_INCREMENT), .val (.ref a_ABORT)] [])) _
    refine XS.aloadN X0.here hx rfl (hb hby d2_0) rfl rfl ?_
    show Steps p.tables e below (s₁.setTop (mkF m 1 #[.val (.ref a_INCREMENT), .val (.ref a_ABORT)] [(.ref a_INCREMENT)])) _
    refine st1 _ ?_
    show Steps p.tables e below (T1.setTop (mkF m 4 #[.val (.ref a_INCREMENT), .val (.ref a_ABORT)] [(.int (1 : Int32))])) _
    refine XS.ifNo X1.here hx rfl (hb hby d2_4) rfl (by decide) ?_
    show Steps p.tables e below (T1.setTop (mkF m 7 #[.val (.ref a_INCREMENT), .val (.ref a_ABORT)] [])) _
    refine XS.aloadN X1.here hx rfl (hb hby d2_7) rfl rfl ?_
    show Steps p.tables e below (T1.setTop (mkF m 8 #[.val (.ref a_INCREMENT), .val (.ref a_ABORT)] [(.ref a_ABORT)])) _
    refine st2 _ ?_
    show Steps p.tables e below (T2.setTop (mkF m 11 #[.val (.ref a_INCREMENT), .val (.ref a_ABORT)] [(.int (0 : Int32))])) _
    refine XS.ifYes X2.here hx rfl (pc0 := 11) (pc' := 30) rfl (hb hby d2_11) rfl (by decide) (by decide) (by decide) ?_
    show Steps p.tables e below (T2.setTop (mkF m 30 #[.val (.ref a_INCREMENT), .val (.ref a_ABORT)] [])) _
    refine XS.iconst X2.here hx rfl (hb hby d2_30) ?_
    show Steps p.tables e below (T2.setTop (mkF m 31 #[.val (.ref a_INCREMENT), .val (.ref a_ABORT)] [(.int (0 : Int32))])) _
    exact retN X2 hx (t := .boolean) Bd.returns (by simp) (hb hby d2_31) hr
  · show own_Q _ _ _ _ T2.heap _
    exact ⟨rfl, N0, e2⟩
set_option maxRecDepth 65536 in
set_option maxHeartbeats 40000000 in
theorem rm0_14 (l : Launch) (Z : State) (a0 : Array Value) (hw : ∀ d ∈ tables_1, d.before a0 Z = true) (ws : List Jvm.Cond) (p0 p1 : Int32) (a_READ a_COMMIT a_ABORT a_WRITE a_INCREMENT : Addr) (h0 : Heap) (n0 : Nat) (Z0 : n0 ≤ h0.size) (FF : Facts Z h0 a_READ a_COMMIT a_ABORT a_WRITE a_INCREMENT) (hk0 : ((p0 &&& (2147483647 : Int32)) % (5 : Int32)) = (2 : Int32)) (hk1 : ((p1 &&& (2147483647 : Int32)) % (5 : Int32)) = (4 : Int32)) :
    MetFree l x (head1 (Jvm.Cond.code x code maxLocals ret :: ws) room_1) (fun a U => a = #[(.int p0), (.int p1)] ∧ Z.Warmed39 U.vm ∧ U.heap = h0) (fun _ _ _ _ _ => True) (fun _ U o U' => ∃ v L, o = .returned v ∧ (v = some (.int (1 : Int32)) ∧ Fr n0 L) ∧ FrameEnd U o U' L room_1.cells room_1.slots) := by
  refine MetFree.of_bodySF (plainFor_of_name pn_0) hisR ?_
  intro p e s m args below meth c s₁ Bd hml0 hP hK
  obtain ⟨rfl, hZ, hh⟩ := hP
  have hx := Bd.exec
  have hby := Bd.bytes
  have hml : c.maxLocals = 8 := hml0
  have hown : s.vm.findClass "com/example/schedulock/schedulock/schedule/OperationKindConflictsWithPinLaw" = some m.cls := findClass_of_methodNamed Bd.named
  have X0 : Stand p l e room_1 s m #[(.int p0), (.int p1)] below meth c s₁ [] 0 0 := Stand.of_body Bd
  have e0 : s₁.heap = h0 := by rw [← hh, Bd.state]; rfl
  have N0 := Fr.nil n0
  have pre0 : ∀ t, Steps p.tables e below (s₁.setTop (mkF m 0 #[.val (.int p0), .val (.int p1), .unset, .unset, .unset, .unset, .unset, .unset] [])) t → Steps p.tables e below (s₁.setTop (entryFrame m #[(.int p0), (.int p1)] maxLocals)) t := fun t k => castTop (ef_0 m p0 p1) k
  obtain ⟨_, _, ⟨T1, L1, k1, n1⟩, -, X1, ⟨Lc1, hQ1, l1, y1, z1⟩, st1⟩ := Jvm.LawKit.callS X0 hx (y := (⟨"com/example/schedulock/schedulock/schedule/OperationKindConflictsWithPinLaw", "kind", "(I)Lcom/example/schedulock/schedulock/schedule/OperationKind;"⟩ : MethodName)) hown (mvT hZ (hw _ (List.mem_of_getElem? (i := 1) rfl))) (mvT hZ (hw _ (List.mem_of_getElem? (i := 2) rfl))) (mvT hZ (hw _ (List.mem_of_getElem? (i := 3) rfl))) (mvT hZ (hw _ (List.mem_of_getElem? (i := 4) rfl))) (by decide) (backOf (W := 0) (rm1_2 l Z a0 hw [] p0 p1 a_READ a_COMMIT a_ABORT a_WRITE a_INCREMENT h0 n0 (Nat.le_trans Z0 (Nat.le_refl _)) FF) hZ (hw _ (List.mem_of_getElem? (i := 4) rfl)) (hw _ (List.mem_of_getElem? (i := 3) rfl)) (by decide) (by decide)) (g := (mkF m 15 #[.val (.int p0), .val (.int p1), .val (.int (2 : Int32)), .val (.int (4 : Int32)), .unset, .unset, .unset, .unset] [(.int (2 : Int32))])) rfl (by rw [hml]; rfl) (argsL := [(.int (2 : Int32))]) (rest := []) (lenOf pd_0 rfl) rfl (by show 2 * 0 + _ ≤ _; exact Nat.le_of_eq rfl) (hb hby at_15) (fun _ _ => ⟨rfl, e0, (by decide : 0 + 0 ≤ _), (by decide : 0 + 0 ≤ _)⟩)
  dsimp only [Pt.U, Pt.locs, Pt.cells, Pt.slots] at X1 l1 y1 z1 st1 hQ1
  subst l1 y1 z1
  obtain ⟨rfl, N1q, e1⟩ := hQ1
  have N1 := Fr.app N0 N1q
  obtain ⟨_, _, ⟨T2, L2, k2, n2⟩, -, X2, ⟨Lc2, hQ2, l2, y2, z2⟩, st2⟩ := Jvm.LawKit.callS X1 hx (y := (⟨"com/example/schedulock/schedulock/schedule/OperationKindConflictsWithPinLaw", "kind", "(I)Lcom/example/schedulock/schedulock/schedule/OperationKind;"⟩ : MethodName)) hown (mvT hZ (hw _ (List.mem_of_getElem? (i := 1) rfl))) (mvT hZ (hw _ (List.mem_of_getElem? (i := 2) rfl))) (mvT hZ (hw _ (List.mem_of_getElem? (i := 3) rfl))) (mvT hZ (hw _ (List.mem_of_getElem? (i := 4) rfl))) (by decide) (backOf (W := 0) (rm1_4 l Z a0 hw [] p0 p1 a_READ a_COMMIT a_ABORT a_WRITE a_INCREMENT h0 n0 (Nat.le_trans Z0 (Nat.le_refl _)) FF) hZ (hw _ (List.mem_of_getElem? (i := 4) rfl)) (hw _ (List.mem_of_getElem? (i := 3) rfl)) (by decide) (by decide)) (g := (mkF m 21 #[.val (.int p0), .val (.int p1), .val (.int (2 : Int32)), .val (.int (4 : Int32)), .val (.ref a_INCREMENT), .unset, .unset, .unset] [(.int (4 : Int32))])) rfl (by rw [hml]; rfl) (argsL := [(.int (4 : Int32))]) (rest := []) (lenOf pd_0 rfl) rfl (by show 2 * 0 + _ ≤ _; exact Nat.le_of_eq rfl) (hb hby at_21) (fun _ _ => ⟨rfl, e1, (by decide : 0 + 0 ≤ _), (by decide : 0 + 0 ≤ _)⟩)
  dsimp only [Pt.U, Pt.locs, Pt.cells, Pt.slots] at X2 l2 y2 z2 st2 hQ2
  subst l2 y2 z2
  obtain ⟨rfl, N2q, e2⟩ := hQ2
  have N2 := Fr.app N1 N2q
  obtain ⟨T3, h3, b3, k3, lc3, X3, e3, s_b3, z3, N3, FF3, V3, st3⟩ := seg_0 (l := l) (Z := Z) hw a_READ a_COMMIT a_ABORT a_WRITE a_INCREMENT p0 p1 (2 : Int32) (4 : Int32) a_INCREMENT a_ABORT X2 hx hZ hby hml hown e2 Z0 N2 FF
  obtain ⟨c4, r4, -, S4, -, H4, -⟩ := V3
  have i4 : ¬ ((14 : Int32) < 0 ∨ c4.slots.size ≤ ((14 : Int32)).toNatClampNeg) := inb_of S4 ⟨by decide, by decide⟩
  have y4 : c4.slots[((14 : Int32)).toNatClampNeg]? = some (.int (0 : Int32)) := H4 14 (by rw [S4]; decide)
  obtain ⟨cq5, kq5, q5a, q5b, q5c⟩ := isOf hZ e3 (fx_E_INCREMENT FF3)
  obtain ⟨_, _, ⟨T5, L5, k5, n5⟩, -, X5, ⟨Lc5, hQ5, l5, y5, z5⟩, st5⟩ := X3.virtualBack hx (y := (⟨"com/example/schedulock/schedulock/schedule/OperationKind", "conflictsWith", "(Lcom/example/schedulock/schedulock/schedule/OperationKind;)Z"⟩ : MethodName)) (z := (⟨"com/example/schedulock/schedulock/schedule/OperationKind", "conflictsWith", "(Lcom/example/schedulock/schedulock/schedule/OperationKind;)Z"⟩ : MethodName)) hown (mvT hZ (hw _ (List.mem_of_getElem? (i := 11) rfl))) (mvT hZ (hw _ (List.mem_of_getElem? (i := 12) rfl))) (notFace_of_selects (args := #[]) (mvT hZ (hw _ (List.mem_of_getElem? (i := 14) rfl)))) (mvT hZ (hw _ (List.mem_of_getElem? (i := 14) rfl))) (mvT hZ (hw _ (List.mem_of_getElem? (i := 13) rfl))) (by decide) (backOf (W := 0) (rm2_14 l Z a0 hw [] p0 p1 a_READ a_COMMIT a_ABORT a_WRITE a_INCREMENT h3 n0 (Nat.le_trans Z0 z3) FF3) hZ (hw _ (List.mem_of_getElem? (i := 15) rfl)) (hw _ (List.mem_of_getElem? (i := 6) rfl)) (by decide) (by decide)) q5a q5c (g := (mkF m 165 #[.val (.int p0), .val (.int p1), .val (.int (2 : Int32)), .val (.int (4 : Int32)), .val (.ref a_INCREMENT), .val (.ref a_ABORT), .val (.ref b3), .val (.int (0 : Int32))] [(.ref a_ABORT), (.ref a_INCREMENT)])) rfl (by rw [hml]; rfl) (Steps.refl _) (argsL := [(.ref a_ABORT)]) (rest := []) (lenOf pd_1 rfl) rfl (by show 2 * 0 + _ ≤ _; exact Nat.le_of_eq rfl) (hb hby at_165) (fun _ _ => ⟨rfl, e3, (by decide : 1 + 0 ≤ _), (by decide : 25 + 0 ≤ _)⟩)
  dsimp only [Pt.U, Pt.locs, Pt.cells, Pt.slots] at X5 l5 y5 z5 st5 hQ5
  subst l5 y5 z5
  obtain ⟨rfl, N5q, e5⟩ := hQ5
  have N5 := Fr.app N3 N5q
  obtain ⟨fs, hr, hrun, hended, hW, hsame⟩ := X5.leave (v := some (.int (1 : Int32))) (fun h => by rw [Bd.returns] at h; cases h)
  refine ⟨_, _, pre0 _ ?_, hrun, hended, _, _, rfl, ?_, ⟨_, rfl⟩, hW, hsame.mono (by decide) (by decide)⟩
  · show Steps p.tables e below (s₁.setTop (mkF m 0 #[.val (.int p0), .val (.int p1), .unset, .unset, .unset, .unset, .unset, .unset] [])) _
    refine XS.iloadN X0.here hx rfl (hb hby at_0) rfl ?_
    show Steps p.tables e below (s₁.setTop (mkF m 1 #[.val (.int p0), .val (.int p1), .unset, .unset, .unset, .unset, .unset, .unset] [(.int p0)])) _
    refine X0.ldcInt hx hown (mvT hZ (hw _ (List.mem_of_getElem? (i := 0) rfl))) (g := (mkF m 1 #[.val (.int p0), .val (.int p1), .unset, .unset, .unset, .unset, .unset, .unset] [(.int p0)])) rfl (hb hby at_1) _ ?_
    show Steps p.tables e below (s₁.setTop (mkF m 3 #[.val (.int p0), .val (.int p1), .unset, .unset, .unset, .unset, .unset, .unset] [(.int (2147483647 : Int32)), (.int p0)])) _
    refine XS.iand X0.here hx rfl (hb hby at_3) rfl ?_
    show Steps p.tables e below (s₁.setTop (mkF m 4 #[.val (.int p0), .val (.int p1), .unset, .unset, .unset, .unset, .unset, .unset] [(.int (p0 &&& (2147483647 : Int32)))])) _
    refine XS.iconst X0.here hx rfl (hb hby at_4) ?_
    show Steps p.tables e below (s₁.setTop (mkF m 5 #[.val (.int p0), .val (.int p1), .unset, .unset, .unset, .unset, .unset, .unset] [(.int (5 : Int32)), (.int (p0 &&& (2147483647 : Int32)))])) _
    refine iremM X0 hx rfl (hb hby at_5) rfl (by decide) ?_
    show Steps p.tables e below (s₁.setTop (mkF m 6 #[.val (.int p0), .val (.int p1), .unset, .unset, .unset, .unset, .unset, .unset] [(.int ((p0 &&& (2147483647 : Int32)) % (5 : Int32)))])) _
    rw [hk0]
    show Steps p.tables e below (s₁.setTop (mkF m 6 #[.val (.int p0), .val (.int p1), .unset, .unset, .unset, .unset, .unset, .unset] [(.int (2 : Int32))])) _
    refine XS.istoreN X0.here hx rfl (hb hby at_6) rfl (l' := #[.val (.int p0), .val (.int p1), .val (.int (2 : Int32)), .unset, .unset, .unset, .unset, .unset]) rfl ?_
    show Steps p.tables e below (s₁.setTop (mkF m 7 #[.val (.int p0), .val (.int p1), .val (.int (2 : Int32)), .unset, .unset, .unset, .unset, .unset] [])) _
    refine XS.iloadN X0.here hx rfl (hb hby at_7) rfl ?_
    show Steps p.tables e below (s₁.setTop (mkF m 8 #[.val (.int p0), .val (.int p1), .val (.int (2 : Int32)), .unset, .unset, .unset, .unset, .unset] [(.int p1)])) _
    refine X0.ldcInt hx hown (mvT hZ (hw _ (List.mem_of_getElem? (i := 0) rfl))) (g := (mkF m 8 #[.val (.int p0), .val (.int p1), .val (.int (2 : Int32)), .unset, .unset, .unset, .unset, .unset] [(.int p1)])) rfl (hb hby at_8) _ ?_
    show Steps p.tables e below (s₁.setTop (mkF m 10 #[.val (.int p0), .val (.int p1), .val (.int (2 : Int32)), .unset, .unset, .unset, .unset, .unset] [(.int (2147483647 : Int32)), (.int p1)])) _
    refine XS.iand X0.here hx rfl (hb hby at_10) rfl ?_
    show Steps p.tables e below (s₁.setTop (mkF m 11 #[.val (.int p0), .val (.int p1), .val (.int (2 : Int32)), .unset, .unset, .unset, .unset, .unset] [(.int (p1 &&& (2147483647 : Int32)))])) _
    refine XS.iconst X0.here hx rfl (hb hby at_11) ?_
    show Steps p.tables e below (s₁.setTop (mkF m 12 #[.val (.int p0), .val (.int p1), .val (.int (2 : Int32)), .unset, .unset, .unset, .unset, .unset] [(.int (5 : Int32)), (.int (p1 &&& (2147483647 : Int32)))])) _
    refine iremM X0 hx rfl (hb hby at_12) rfl (by decide) ?_
    show Steps p.tables e below (s₁.setTop (mkF m 13 #[.val (.int p0), .val (.int p1), .val (.int (2 : Int32)), .unset, .unset, .unset, .unset, .unset] [(.int ((p1 &&& (2147483647 : Int32)) % (5 : Int32)))])) _
    rw [hk1]
    show Steps p.tables e below (s₁.setTop (mkF m 13 #[.val (.int p0), .val (.int p1), .val (.int (2 : Int32)), .unset, .unset, .unset, .unset, .unset] [(.int (4 : Int32))])) _
    refine XS.istoreN X0.here hx rfl (hb hby at_13) rfl (l' := #[.val (.int p0), .val (.int p1), .val (.int (2 : Int32)), .val (.int (4 : Int32)), .unset, .unset, .unset, .unset]) rfl ?_
    show Steps p.tables e below (s₁.setTop (mkF m 14 #[.val (.int p0), .val (.int p1), .val (.int (2 : Int32)), .val (.int (4 : Int32)), .unset, .unset, .unset, .unset] [])) _
    refine XS.iloadN X0.here hx rfl (hb hby at_14) rfl ?_
    show Steps p.tables e below (s₁.setTop (mkF m 15 #[.val (.int p0), .val (.int p1), .val (.int (2 : Int32)), .val (.int (4 : Int32)), .unset, .unset, .unset, .unset] [(.int (2 : Int32))])) _
    refine st1 _ ?_
    show Steps p.tables e below (T1.setTop (mkF m 18 #[.val (.int p0), .val (.int p1), .val (.int (2 : Int32)), .val (.int (4 : Int32)), .unset, .unset, .unset, .unset] [(.ref a_INCREMENT)])) _
    refine XS.astore X1.here hx rfl (hb hby at_18) rfl rfl (l' := #[.val (.int p0), .val (.int p1), .val (.int (2 : Int32)), .val (.int (4 : Int32)), .val (.ref a_INCREMENT), .unset, .unset, .unset]) rfl ?_
    show Steps p.tables e below (T1.setTop (mkF m 20 #[.val (.int p0), .val (.int p1), .val (.int (2 : Int32)), .val (.int (4 : Int32)), .val (.ref a_INCREMENT), .unset, .unset, .unset] [])) _
    refine XS.iloadN X1.here hx rfl (hb hby at_20) rfl ?_
    show Steps p.tables e below (T1.setTop (mkF m 21 #[.val (.int p0), .val (.int p1), .val (.int (2 : Int32)), .val (.int (4 : Int32)), .val (.ref a_INCREMENT), .unset, .unset, .unset] [(.int (4 : Int32))])) _
    refine st2 _ ?_
    show Steps p.tables e below (T2.setTop (mkF m 24 #[.val (.int p0), .val (.int p1), .val (.int (2 : Int32)), .val (.int (4 : Int32)), .val (.ref a_INCREMENT), .unset, .unset, .unset] [(.ref a_ABORT)])) _
    refine XS.astore X2.here hx rfl (hb hby at_24) rfl rfl (l' := #[.val (.int p0), .val (.int p1), .val (.int (2 : Int32)), .val (.int (4 : Int32)), .val (.ref a_INCREMENT), .val (.ref a_ABORT), .unset, .unset]) rfl ?_
    show Steps p.tables e below (T2.setTop (mkF m 26 #[.val (.int p0), .val (.int p1), .val (.int (2 : Int32)), .val (.int (4 : Int32)), .val (.ref a_INCREMENT), .val (.ref a_ABORT), .unset, .unset] [])) _
    refine st3 _ ?_
    show Steps p.tables e below (T3.setTop (mkF m 151 #[.val (.int p0), .val (.int p1), .val (.int (2 : Int32)), .val (.int (4 : Int32)), .val (.ref a_INCREMENT), .val (.ref a_ABORT), .val (.ref b3), .unset] [])) _
    refine XS.aload X3.here hx rfl (hb hby at_151) rfl rfl ?_
    show Steps p.tables e below (T3.setTop (mkF m 153 #[.val (.int p0), .val (.int p1), .val (.int (2 : Int32)), .val (.int (4 : Int32)), .val (.ref a_INCREMENT), .val (.ref a_ABORT), .val (.ref b3), .unset] [(.ref b3)])) _
    refine XS.iloadN X3.here hx rfl (hb hby at_153) rfl ?_
    show Steps p.tables e below (T3.setTop (mkF m 154 #[.val (.int p0), .val (.int p1), .val (.int (2 : Int32)), .val (.int (4 : Int32)), .val (.ref a_INCREMENT), .val (.ref a_ABORT), .val (.ref b3), .unset] [(.int (2 : Int32)), (.ref b3)])) _
    refine XS.iconst X3.here hx rfl (hb hby at_154) ?_
    show Steps p.tables e below (T3.setTop (mkF m 155 #[.val (.int p0), .val (.int p1), .val (.int (2 : Int32)), .val (.int (4 : Int32)), .val (.ref a_INCREMENT), .val (.ref a_ABORT), .val (.ref b3), .unset] [(.int (5 : Int32)), (.int (2 : Int32)), (.ref b3)])) _
    refine XS.imul X3.here hx rfl (hb hby at_155) rfl ?_
    show Steps p.tables e below (T3.setTop (mkF m 156 #[.val (.int p0), .val (.int p1), .val (.int (2 : Int32)), .val (.int (4 : Int32)), .val (.ref a_INCREMENT), .val (.ref a_ABORT), .val (.ref b3), .unset] [(.int ((2 : Int32) * (5 : Int32))), (.ref b3)])) _
    rw [(by decide : ((2 : Int32) * (5 : Int32)) = (10 : Int32))]
    show Steps p.tables e below (T3.setTop (mkF m 156 #[.val (.int p0), .val (.int p1), .val (.int (2 : Int32)), .val (.int (4 : Int32)), .val (.ref a_INCREMENT), .val (.ref a_ABORT), .val (.ref b3), .unset] [(.int (10 : Int32)), (.ref b3)])) _
    refine XS.iloadN X3.here hx rfl (hb hby at_156) rfl ?_
    show Steps p.tables e below (T3.setTop (mkF m 157 #[.val (.int p0), .val (.int p1), .val (.int (2 : Int32)), .val (.int (4 : Int32)), .val (.ref a_INCREMENT), .val (.ref a_ABORT), .val (.ref b3), .unset] [(.int (4 : Int32)), (.int (10 : Int32)), (.ref b3)])) _
    refine XS.iadd X3.here hx rfl (hb hby at_157) rfl ?_
    show Steps p.tables e below (T3.setTop (mkF m 158 #[.val (.int p0), .val (.int p1), .val (.int (2 : Int32)), .val (.int (4 : Int32)), .val (.ref a_INCREMENT), .val (.ref a_ABORT), .val (.ref b3), .unset] [(.int ((10 : Int32) + (4 : Int32))), (.ref b3)])) _
    rw [(by decide : ((10 : Int32) + (4 : Int32)) = (14 : Int32))]
    show Steps p.tables e below (T3.setTop (mkF m 158 #[.val (.int p0), .val (.int p1), .val (.int (2 : Int32)), .val (.int (4 : Int32)), .val (.ref a_INCREMENT), .val (.ref a_ABORT), .val (.ref b3), .unset] [(.int (14 : Int32)), (.ref b3)])) _
    refine X3.baloadBooleans hx (j := (14 : Int32)) (v := (.int (0 : Int32))) (by rw [e3]; exact r4.1) (State.isArrayOf_alike hZ.alike r4.2.1) r4.2.2 i4 y4 (g := (mkF m 158 #[.val (.int p0), .val (.int p1), .val (.int (2 : Int32)), .val (.int (4 : Int32)), .val (.ref a_INCREMENT), .val (.ref a_ABORT), .val (.ref b3), .unset] [(.int (14 : Int32)), (.ref b3)])) rfl rfl (hb hby at_158) _ ?_
    show Steps p.tables e below (T3.setTop (mkF m 159 #[.val (.int p0), .val (.int p1), .val (.int (2 : Int32)), .val (.int (4 : Int32)), .val (.ref a_INCREMENT), .val (.ref a_ABORT), .val (.ref b3), .unset] [(.int (0 : Int32))])) _
    refine XS.istore X3.here hx rfl (hb hby at_159) rfl (l' := #[.val (.int p0), .val (.int p1), .val (.int (2 : Int32)), .val (.int (4 : Int32)), .val (.ref a_INCREMENT), .val (.ref a_ABORT), .val (.ref b3), .val (.int (0 : Int32))]) rfl ?_
    show Steps p.tables e below (T3.setTop (mkF m 161 #[.val (.int p0), .val (.int p1), .val (.int (2 : Int32)), .val (.int (4 : Int32)), .val (.ref a_INCREMENT), .val (.ref a_ABORT), .val (.ref b3), .val (.int (0 : Int32))] [])) _
    refine XS.aload X3.here hx rfl (hb hby at_161) rfl rfl ?_
    show Steps p.tables e below (T3.setTop (mkF m 163 #[.val (.int p0), .val (.int p1), .val (.int (2 : Int32)), .val (.int (4 : Int32)), .val (.ref a_INCREMENT), .val (.ref a_ABORT), .val (.ref b3), .val (.int (0 : Int32))] [(.ref a_INCREMENT)])) _
    refine XS.aload X3.here hx rfl (hb hby at_163) rfl rfl ?_
    show Steps p.tables e below (T3.setTop (mkF m 165 #[.val (.int p0), .val (.int p1), .val (.int (2 : Int32)), .val (.int (4 : Int32)), .val (.ref a_INCREMENT), .val (.ref a_ABORT), .val (.ref b3), .val (.int (0 : Int32))] [(.ref a_ABORT), (.ref a_INCREMENT)])) _
    refine st5.trans ?_
    show Steps p.tables e below (T5.setTop (mkF m 168 #[.val (.int p0), .val (.int p1), .val (.int (2 : Int32)), .val (.int (4 : Int32)), .val (.ref a_INCREMENT), .val (.ref a_ABORT), .val (.ref b3), .val (.int (0 : Int32))] [(.int (0 : Int32))])) _
    refine XS.iload X5.here hx rfl (hb hby at_168) rfl ?_
    show Steps p.tables e below (T5.setTop (mkF m 170 #[.val (.int p0), .val (.int p1), .val (.int (2 : Int32)), .val (.int (4 : Int32)), .val (.ref a_INCREMENT), .val (.ref a_ABORT), .val (.ref b3), .val (.int (0 : Int32))] [(.int (0 : Int32)), (.int (0 : Int32))])) _
    refine XS.icmpNo X5.here hx rfl (hb hby at_170) rfl (by decide) ?_
    show Steps p.tables e below (T5.setTop (mkF m 173 #[.val (.int p0), .val (.int p1), .val (.int (2 : Int32)), .val (.int (4 : Int32)), .val (.ref a_INCREMENT), .val (.ref a_ABORT), .val (.ref b3), .val (.int (0 : Int32))] [])) _
    refine XS.iconst X5.here hx rfl (hb hby at_173) ?_
    show Steps p.tables e below (T5.setTop (mkF m 174 #[.val (.int p0), .val (.int p1), .val (.int (2 : Int32)), .val (.int (4 : Int32)), .val (.ref a_INCREMENT), .val (.ref a_ABORT), .val (.ref b3), .val (.int (0 : Int32))] [(.int (1 : Int32))])) _
    refine XS.goto X5.here hx rfl (pc0 := 174) (pc' := 178) rfl (hb hby at_174) (by decide) (by decide) ?_
    show Steps p.tables e below (T5.setTop (mkF m 178 #[.val (.int p0), .val (.int p1), .val (.int (2 : Int32)), .val (.int (4 : Int32)), .val (.ref a_INCREMENT), .val (.ref a_ABORT), .val (.ref b3), .val (.int (0 : Int32))] [(.int (1 : Int32))])) _
    exact retN X5 hx (t := .boolean) Bd.returns (by simp) (hb hby at_178) hr
  · exact ⟨rfl, N5⟩
set_option maxRecDepth 65536 in
set_option maxHeartbeats 40000000 in
theorem rm2_15 (l : Launch) (Z : State) (a0 : Array Value) (hw : ∀ d ∈ tables_1, d.before a0 Z = true) (ws : List Jvm.Cond) (p0 p1 : Int32) (a_READ a_COMMIT a_ABORT a_WRITE a_INCREMENT : Addr) (h0 : Heap) (n0 : Nat) (Z0 : n0 ≤ h0.size) (FF : Facts Z h0 a_READ a_COMMIT a_ABORT a_WRITE a_INCREMENT) :
    MetFree l (⟨"com/example/schedulock/schedulock/schedule/OperationKind", "conflictsWith", "(Lcom/example/schedulock/schedulock/schedule/OperationKind;)Z"⟩ : MethodName) (head1 (Jvm.Cond.code (⟨"com/example/schedulock/schedulock/schedule/OperationKind", "conflictsWith", "(Lcom/example/schedulock/schedulock/schedule/OperationKind;)Z"⟩ : MethodName) prog_31_method_5_code 2 (some .boolean) :: ws) ({ frames := 0, cells := 0, slots := 0, locals := 0 } : Room)) (fun a U => a = #[(.ref a_COMMIT), (.ref a_READ)] ∧ Z.Warmed39 U.vm ∧ U.heap = h0) (fun _ _ _ _ _ => True) (fun _ U o U' => ∃ v L, o = .returned v ∧ own_Q (.int (0 : Int32)) h0 n0 v U'.heap L ∧ FrameEnd U o U' L ({ frames := 0, cells := 0, slots := 0, locals := 0 } : Room).cells ({ frames := 0, cells := 0, slots := 0, locals := 0 } : Room).slots) := by
  refine MetFree.of_bodySF (plainFor_of_name pn_2) hisR ?_
  intro p e s m args below meth c s₁ Bd hml0 hP hK
  obtain ⟨rfl, hZ, hh⟩ := hP
  have hx := Bd.exec
  have hby := Bd.bytes
  have hml : c.maxLocals = 2 := hml0
  have hown : s.vm.findClass "com/example/schedulock/schedulock/schedule/OperationKind" = some m.cls := findClass_of_methodNamed Bd.named
  have X0 : Stand p l e ({ frames := 0, cells := 0, slots := 0, locals := 0 } : Room) s m #[(.ref a_COMMIT), (.ref a_READ)] below meth c s₁ [] 0 0 := Stand.of_body Bd
  have e0 : s₁.heap = h0 := by rw [← hh, Bd.state]; rfl
  have N0 := Fr.nil n0
  have pre0 : ∀ t, Steps p.tables e below (s₁.setTop (mkF m 0 #[.val (.ref a_COMMIT), .val (.ref a_READ)] [])) t → Steps p.tables e below (s₁.setTop (entryFrame m #[(.ref a_COMMIT), (.ref a_READ)] 2)) t := fun t k => castTop (ef_2 m a_COMMIT a_READ) k
  obtain ⟨T1, X1, e1, st1⟩ := getF X0 hx hZ hown (host := "") (Or.inl (hw _ (List.mem_of_getElem? (i := 16) rfl))) Via.refl e0 (fx_F_COMMIT_takesItem FF) (g := (mkF m 1 #[.val (.ref a_COMMIT), .val (.ref a_READ)] [(.ref a_COMMIT)])) rfl rfl (hb hby d2_1)
  obtain ⟨fs, hr, hrun, hended, hW, hsame⟩ := X1.leave (v := some (.int (0 : Int32))) (fun h => by rw [Bd.returns] at h; cases h)
  refine ⟨_, _, pre0 _ ?_, hrun, hended, _, _, rfl, ?_, ⟨_, rfl⟩, hW, hsame.mono (by decide) (by decide)⟩
  · show Steps p.tables e below (s₁.setTop (mkF m 0 #[.val (.ref a_COMMIT), .val (.ref a_READ)] [])) _
    refine XS.aloadN X0.here hx rfl (hb hby d2_0) rfl rfl ?_
    show Steps p.tables e below (s₁.setTop (mkF m 1 #[.val (.ref a_COMMIT), .val (.ref a_READ)] [(.ref a_COMMIT)])) _
    refine st1 _ ?_
    show Steps p.tables e below (T1.setTop (mkF m 4 #[.val (.ref a_COMMIT), .val (.ref a_READ)] [(.int (0 : Int32))])) _
    refine XS.ifYes X1.here hx rfl (pc0 := 4) (pc' := 30) rfl (hb hby d2_4) rfl (by decide) (by decide) (by decide) ?_
    show Steps p.tables e below (T1.setTop (mkF m 30 #[.val (.ref a_COMMIT), .val (.ref a_READ)] [])) _
    refine XS.iconst X1.here hx rfl (hb hby d2_30) ?_
    show Steps p.tables e below (T1.setTop (mkF m 31 #[.val (.ref a_COMMIT), .val (.ref a_READ)] [(.int (0 : Int32))])) _
    exact retN X1 hx (t := .boolean) Bd.returns (by simp) (hb hby d2_31) hr
  · show own_Q _ _ _ _ T1.heap _
    exact ⟨rfl, N0, e1⟩
set_option maxRecDepth 65536 in
set_option maxHeartbeats 40000000 in
theorem rm0_15 (l : Launch) (Z : State) (a0 : Array Value) (hw : ∀ d ∈ tables_1, d.before a0 Z = true) (ws : List Jvm.Cond) (p0 p1 : Int32) (a_READ a_COMMIT a_ABORT a_WRITE a_INCREMENT : Addr) (h0 : Heap) (n0 : Nat) (Z0 : n0 ≤ h0.size) (FF : Facts Z h0 a_READ a_COMMIT a_ABORT a_WRITE a_INCREMENT) (hk0 : ((p0 &&& (2147483647 : Int32)) % (5 : Int32)) = (3 : Int32)) (hk1 : ((p1 &&& (2147483647 : Int32)) % (5 : Int32)) = (0 : Int32)) :
    MetFree l x (head1 (Jvm.Cond.code x code maxLocals ret :: ws) room_1) (fun a U => a = #[(.int p0), (.int p1)] ∧ Z.Warmed39 U.vm ∧ U.heap = h0) (fun _ _ _ _ _ => True) (fun _ U o U' => ∃ v L, o = .returned v ∧ (v = some (.int (1 : Int32)) ∧ Fr n0 L) ∧ FrameEnd U o U' L room_1.cells room_1.slots) := by
  refine MetFree.of_bodySF (plainFor_of_name pn_0) hisR ?_
  intro p e s m args below meth c s₁ Bd hml0 hP hK
  obtain ⟨rfl, hZ, hh⟩ := hP
  have hx := Bd.exec
  have hby := Bd.bytes
  have hml : c.maxLocals = 8 := hml0
  have hown : s.vm.findClass "com/example/schedulock/schedulock/schedule/OperationKindConflictsWithPinLaw" = some m.cls := findClass_of_methodNamed Bd.named
  have X0 : Stand p l e room_1 s m #[(.int p0), (.int p1)] below meth c s₁ [] 0 0 := Stand.of_body Bd
  have e0 : s₁.heap = h0 := by rw [← hh, Bd.state]; rfl
  have N0 := Fr.nil n0
  have pre0 : ∀ t, Steps p.tables e below (s₁.setTop (mkF m 0 #[.val (.int p0), .val (.int p1), .unset, .unset, .unset, .unset, .unset, .unset] [])) t → Steps p.tables e below (s₁.setTop (entryFrame m #[(.int p0), (.int p1)] maxLocals)) t := fun t k => castTop (ef_0 m p0 p1) k
  obtain ⟨_, _, ⟨T1, L1, k1, n1⟩, -, X1, ⟨Lc1, hQ1, l1, y1, z1⟩, st1⟩ := Jvm.LawKit.callS X0 hx (y := (⟨"com/example/schedulock/schedulock/schedule/OperationKindConflictsWithPinLaw", "kind", "(I)Lcom/example/schedulock/schedulock/schedule/OperationKind;"⟩ : MethodName)) hown (mvT hZ (hw _ (List.mem_of_getElem? (i := 1) rfl))) (mvT hZ (hw _ (List.mem_of_getElem? (i := 2) rfl))) (mvT hZ (hw _ (List.mem_of_getElem? (i := 3) rfl))) (mvT hZ (hw _ (List.mem_of_getElem? (i := 4) rfl))) (by decide) (backOf (W := 0) (rm1_3 l Z a0 hw [] p0 p1 a_READ a_COMMIT a_ABORT a_WRITE a_INCREMENT h0 n0 (Nat.le_trans Z0 (Nat.le_refl _)) FF) hZ (hw _ (List.mem_of_getElem? (i := 4) rfl)) (hw _ (List.mem_of_getElem? (i := 3) rfl)) (by decide) (by decide)) (g := (mkF m 15 #[.val (.int p0), .val (.int p1), .val (.int (3 : Int32)), .val (.int (0 : Int32)), .unset, .unset, .unset, .unset] [(.int (3 : Int32))])) rfl (by rw [hml]; rfl) (argsL := [(.int (3 : Int32))]) (rest := []) (lenOf pd_0 rfl) rfl (by show 2 * 0 + _ ≤ _; exact Nat.le_of_eq rfl) (hb hby at_15) (fun _ _ => ⟨rfl, e0, (by decide : 0 + 0 ≤ _), (by decide : 0 + 0 ≤ _)⟩)
  dsimp only [Pt.U, Pt.locs, Pt.cells, Pt.slots] at X1 l1 y1 z1 st1 hQ1
  subst l1 y1 z1
  obtain ⟨rfl, N1q, e1⟩ := hQ1
  have N1 := Fr.app N0 N1q
  obtain ⟨_, _, ⟨T2, L2, k2, n2⟩, -, X2, ⟨Lc2, hQ2, l2, y2, z2⟩, st2⟩ := Jvm.LawKit.callS X1 hx (y := (⟨"com/example/schedulock/schedulock/schedule/OperationKindConflictsWithPinLaw", "kind", "(I)Lcom/example/schedulock/schedulock/schedule/OperationKind;"⟩ : MethodName)) hown (mvT hZ (hw _ (List.mem_of_getElem? (i := 1) rfl))) (mvT hZ (hw _ (List.mem_of_getElem? (i := 2) rfl))) (mvT hZ (hw _ (List.mem_of_getElem? (i := 3) rfl))) (mvT hZ (hw _ (List.mem_of_getElem? (i := 4) rfl))) (by decide) (backOf (W := 0) (rm1_0 l Z a0 hw [] p0 p1 a_READ a_COMMIT a_ABORT a_WRITE a_INCREMENT h0 n0 (Nat.le_trans Z0 (Nat.le_refl _)) FF) hZ (hw _ (List.mem_of_getElem? (i := 4) rfl)) (hw _ (List.mem_of_getElem? (i := 3) rfl)) (by decide) (by decide)) (g := (mkF m 21 #[.val (.int p0), .val (.int p1), .val (.int (3 : Int32)), .val (.int (0 : Int32)), .val (.ref a_COMMIT), .unset, .unset, .unset] [(.int (0 : Int32))])) rfl (by rw [hml]; rfl) (argsL := [(.int (0 : Int32))]) (rest := []) (lenOf pd_0 rfl) rfl (by show 2 * 0 + _ ≤ _; exact Nat.le_of_eq rfl) (hb hby at_21) (fun _ _ => ⟨rfl, e1, (by decide : 0 + 0 ≤ _), (by decide : 0 + 0 ≤ _)⟩)
  dsimp only [Pt.U, Pt.locs, Pt.cells, Pt.slots] at X2 l2 y2 z2 st2 hQ2
  subst l2 y2 z2
  obtain ⟨rfl, N2q, e2⟩ := hQ2
  have N2 := Fr.app N1 N2q
  obtain ⟨T3, h3, b3, k3, lc3, X3, e3, s_b3, z3, N3, FF3, V3, st3⟩ := seg_0 (l := l) (Z := Z) hw a_READ a_COMMIT a_ABORT a_WRITE a_INCREMENT p0 p1 (3 : Int32) (0 : Int32) a_COMMIT a_READ X2 hx hZ hby hml hown e2 Z0 N2 FF
  obtain ⟨c4, r4, -, S4, -, H4, -⟩ := V3
  have i4 : ¬ ((15 : Int32) < 0 ∨ c4.slots.size ≤ ((15 : Int32)).toNatClampNeg) := inb_of S4 ⟨by decide, by decide⟩
  have y4 : c4.slots[((15 : Int32)).toNatClampNeg]? = some (.int (0 : Int32)) := H4 15 (by rw [S4]; decide)
  obtain ⟨cq5, kq5, q5a, q5b, q5c⟩ := isOf hZ e3 (fx_E_COMMIT FF3)
  obtain ⟨_, _, ⟨T5, L5, k5, n5⟩, -, X5, ⟨Lc5, hQ5, l5, y5, z5⟩, st5⟩ := X3.virtualBack hx (y := (⟨"com/example/schedulock/schedulock/schedule/OperationKind", "conflictsWith", "(Lcom/example/schedulock/schedulock/schedule/OperationKind;)Z"⟩ : MethodName)) (z := (⟨"com/example/schedulock/schedulock/schedule/OperationKind", "conflictsWith", "(Lcom/example/schedulock/schedulock/schedule/OperationKind;)Z"⟩ : MethodName)) hown (mvT hZ (hw _ (List.mem_of_getElem? (i := 11) rfl))) (mvT hZ (hw _ (List.mem_of_getElem? (i := 12) rfl))) (notFace_of_selects (args := #[]) (mvT hZ (hw _ (List.mem_of_getElem? (i := 14) rfl)))) (mvT hZ (hw _ (List.mem_of_getElem? (i := 14) rfl))) (mvT hZ (hw _ (List.mem_of_getElem? (i := 13) rfl))) (by decide) (backOf (W := 0) (rm2_15 l Z a0 hw [] p0 p1 a_READ a_COMMIT a_ABORT a_WRITE a_INCREMENT h3 n0 (Nat.le_trans Z0 z3) FF3) hZ (hw _ (List.mem_of_getElem? (i := 15) rfl)) (hw _ (List.mem_of_getElem? (i := 6) rfl)) (by decide) (by decide)) q5a q5c (g := (mkF m 165 #[.val (.int p0), .val (.int p1), .val (.int (3 : Int32)), .val (.int (0 : Int32)), .val (.ref a_COMMIT), .val (.ref a_READ), .val (.ref b3), .val (.int (0 : Int32))] [(.ref a_READ), (.ref a_COMMIT)])) rfl (by rw [hml]; rfl) (Steps.refl _) (argsL := [(.ref a_READ)]) (rest := []) (lenOf pd_1 rfl) rfl (by show 2 * 0 + _ ≤ _; exact Nat.le_of_eq rfl) (hb hby at_165) (fun _ _ => ⟨rfl, e3, (by decide : 1 + 0 ≤ _), (by decide : 25 + 0 ≤ _)⟩)
  dsimp only [Pt.U, Pt.locs, Pt.cells, Pt.slots] at X5 l5 y5 z5 st5 hQ5
  subst l5 y5 z5
  obtain ⟨rfl, N5q, e5⟩ := hQ5
  have N5 := Fr.app N3 N5q
  obtain ⟨fs, hr, hrun, hended, hW, hsame⟩ := X5.leave (v := some (.int (1 : Int32))) (fun h => by rw [Bd.returns] at h; cases h)
  refine ⟨_, _, pre0 _ ?_, hrun, hended, _, _, rfl, ?_, ⟨_, rfl⟩, hW, hsame.mono (by decide) (by decide)⟩
  · show Steps p.tables e below (s₁.setTop (mkF m 0 #[.val (.int p0), .val (.int p1), .unset, .unset, .unset, .unset, .unset, .unset] [])) _
    refine XS.iloadN X0.here hx rfl (hb hby at_0) rfl ?_
    show Steps p.tables e below (s₁.setTop (mkF m 1 #[.val (.int p0), .val (.int p1), .unset, .unset, .unset, .unset, .unset, .unset] [(.int p0)])) _
    refine X0.ldcInt hx hown (mvT hZ (hw _ (List.mem_of_getElem? (i := 0) rfl))) (g := (mkF m 1 #[.val (.int p0), .val (.int p1), .unset, .unset, .unset, .unset, .unset, .unset] [(.int p0)])) rfl (hb hby at_1) _ ?_
    show Steps p.tables e below (s₁.setTop (mkF m 3 #[.val (.int p0), .val (.int p1), .unset, .unset, .unset, .unset, .unset, .unset] [(.int (2147483647 : Int32)), (.int p0)])) _
    refine XS.iand X0.here hx rfl (hb hby at_3) rfl ?_
    show Steps p.tables e below (s₁.setTop (mkF m 4 #[.val (.int p0), .val (.int p1), .unset, .unset, .unset, .unset, .unset, .unset] [(.int (p0 &&& (2147483647 : Int32)))])) _
    refine XS.iconst X0.here hx rfl (hb hby at_4) ?_
    show Steps p.tables e below (s₁.setTop (mkF m 5 #[.val (.int p0), .val (.int p1), .unset, .unset, .unset, .unset, .unset, .unset] [(.int (5 : Int32)), (.int (p0 &&& (2147483647 : Int32)))])) _
    refine iremM X0 hx rfl (hb hby at_5) rfl (by decide) ?_
    show Steps p.tables e below (s₁.setTop (mkF m 6 #[.val (.int p0), .val (.int p1), .unset, .unset, .unset, .unset, .unset, .unset] [(.int ((p0 &&& (2147483647 : Int32)) % (5 : Int32)))])) _
    rw [hk0]
    show Steps p.tables e below (s₁.setTop (mkF m 6 #[.val (.int p0), .val (.int p1), .unset, .unset, .unset, .unset, .unset, .unset] [(.int (3 : Int32))])) _
    refine XS.istoreN X0.here hx rfl (hb hby at_6) rfl (l' := #[.val (.int p0), .val (.int p1), .val (.int (3 : Int32)), .unset, .unset, .unset, .unset, .unset]) rfl ?_
    show Steps p.tables e below (s₁.setTop (mkF m 7 #[.val (.int p0), .val (.int p1), .val (.int (3 : Int32)), .unset, .unset, .unset, .unset, .unset] [])) _
    refine XS.iloadN X0.here hx rfl (hb hby at_7) rfl ?_
    show Steps p.tables e below (s₁.setTop (mkF m 8 #[.val (.int p0), .val (.int p1), .val (.int (3 : Int32)), .unset, .unset, .unset, .unset, .unset] [(.int p1)])) _
    refine X0.ldcInt hx hown (mvT hZ (hw _ (List.mem_of_getElem? (i := 0) rfl))) (g := (mkF m 8 #[.val (.int p0), .val (.int p1), .val (.int (3 : Int32)), .unset, .unset, .unset, .unset, .unset] [(.int p1)])) rfl (hb hby at_8) _ ?_
    show Steps p.tables e below (s₁.setTop (mkF m 10 #[.val (.int p0), .val (.int p1), .val (.int (3 : Int32)), .unset, .unset, .unset, .unset, .unset] [(.int (2147483647 : Int32)), (.int p1)])) _
    refine XS.iand X0.here hx rfl (hb hby at_10) rfl ?_
    show Steps p.tables e below (s₁.setTop (mkF m 11 #[.val (.int p0), .val (.int p1), .val (.int (3 : Int32)), .unset, .unset, .unset, .unset, .unset] [(.int (p1 &&& (2147483647 : Int32)))])) _
    refine XS.iconst X0.here hx rfl (hb hby at_11) ?_
    show Steps p.tables e below (s₁.setTop (mkF m 12 #[.val (.int p0), .val (.int p1), .val (.int (3 : Int32)), .unset, .unset, .unset, .unset, .unset] [(.int (5 : Int32)), (.int (p1 &&& (2147483647 : Int32)))])) _
    refine iremM X0 hx rfl (hb hby at_12) rfl (by decide) ?_
    show Steps p.tables e below (s₁.setTop (mkF m 13 #[.val (.int p0), .val (.int p1), .val (.int (3 : Int32)), .unset, .unset, .unset, .unset, .unset] [(.int ((p1 &&& (2147483647 : Int32)) % (5 : Int32)))])) _
    rw [hk1]
    show Steps p.tables e below (s₁.setTop (mkF m 13 #[.val (.int p0), .val (.int p1), .val (.int (3 : Int32)), .unset, .unset, .unset, .unset, .unset] [(.int (0 : Int32))])) _
    refine XS.istoreN X0.here hx rfl (hb hby at_13) rfl (l' := #[.val (.int p0), .val (.int p1), .val (.int (3 : Int32)), .val (.int (0 : Int32)), .unset, .unset, .unset, .unset]) rfl ?_
    show Steps p.tables e below (s₁.setTop (mkF m 14 #[.val (.int p0), .val (.int p1), .val (.int (3 : Int32)), .val (.int (0 : Int32)), .unset, .unset, .unset, .unset] [])) _
    refine XS.iloadN X0.here hx rfl (hb hby at_14) rfl ?_
    show Steps p.tables e below (s₁.setTop (mkF m 15 #[.val (.int p0), .val (.int p1), .val (.int (3 : Int32)), .val (.int (0 : Int32)), .unset, .unset, .unset, .unset] [(.int (3 : Int32))])) _
    refine st1 _ ?_
    show Steps p.tables e below (T1.setTop (mkF m 18 #[.val (.int p0), .val (.int p1), .val (.int (3 : Int32)), .val (.int (0 : Int32)), .unset, .unset, .unset, .unset] [(.ref a_COMMIT)])) _
    refine XS.astore X1.here hx rfl (hb hby at_18) rfl rfl (l' := #[.val (.int p0), .val (.int p1), .val (.int (3 : Int32)), .val (.int (0 : Int32)), .val (.ref a_COMMIT), .unset, .unset, .unset]) rfl ?_
    show Steps p.tables e below (T1.setTop (mkF m 20 #[.val (.int p0), .val (.int p1), .val (.int (3 : Int32)), .val (.int (0 : Int32)), .val (.ref a_COMMIT), .unset, .unset, .unset] [])) _
    refine XS.iloadN X1.here hx rfl (hb hby at_20) rfl ?_
    show Steps p.tables e below (T1.setTop (mkF m 21 #[.val (.int p0), .val (.int p1), .val (.int (3 : Int32)), .val (.int (0 : Int32)), .val (.ref a_COMMIT), .unset, .unset, .unset] [(.int (0 : Int32))])) _
    refine st2 _ ?_
    show Steps p.tables e below (T2.setTop (mkF m 24 #[.val (.int p0), .val (.int p1), .val (.int (3 : Int32)), .val (.int (0 : Int32)), .val (.ref a_COMMIT), .unset, .unset, .unset] [(.ref a_READ)])) _
    refine XS.astore X2.here hx rfl (hb hby at_24) rfl rfl (l' := #[.val (.int p0), .val (.int p1), .val (.int (3 : Int32)), .val (.int (0 : Int32)), .val (.ref a_COMMIT), .val (.ref a_READ), .unset, .unset]) rfl ?_
    show Steps p.tables e below (T2.setTop (mkF m 26 #[.val (.int p0), .val (.int p1), .val (.int (3 : Int32)), .val (.int (0 : Int32)), .val (.ref a_COMMIT), .val (.ref a_READ), .unset, .unset] [])) _
    refine st3 _ ?_
    show Steps p.tables e below (T3.setTop (mkF m 151 #[.val (.int p0), .val (.int p1), .val (.int (3 : Int32)), .val (.int (0 : Int32)), .val (.ref a_COMMIT), .val (.ref a_READ), .val (.ref b3), .unset] [])) _
    refine XS.aload X3.here hx rfl (hb hby at_151) rfl rfl ?_
    show Steps p.tables e below (T3.setTop (mkF m 153 #[.val (.int p0), .val (.int p1), .val (.int (3 : Int32)), .val (.int (0 : Int32)), .val (.ref a_COMMIT), .val (.ref a_READ), .val (.ref b3), .unset] [(.ref b3)])) _
    refine XS.iloadN X3.here hx rfl (hb hby at_153) rfl ?_
    show Steps p.tables e below (T3.setTop (mkF m 154 #[.val (.int p0), .val (.int p1), .val (.int (3 : Int32)), .val (.int (0 : Int32)), .val (.ref a_COMMIT), .val (.ref a_READ), .val (.ref b3), .unset] [(.int (3 : Int32)), (.ref b3)])) _
    refine XS.iconst X3.here hx rfl (hb hby at_154) ?_
    show Steps p.tables e below (T3.setTop (mkF m 155 #[.val (.int p0), .val (.int p1), .val (.int (3 : Int32)), .val (.int (0 : Int32)), .val (.ref a_COMMIT), .val (.ref a_READ), .val (.ref b3), .unset] [(.int (5 : Int32)), (.int (3 : Int32)), (.ref b3)])) _
    refine XS.imul X3.here hx rfl (hb hby at_155) rfl ?_
    show Steps p.tables e below (T3.setTop (mkF m 156 #[.val (.int p0), .val (.int p1), .val (.int (3 : Int32)), .val (.int (0 : Int32)), .val (.ref a_COMMIT), .val (.ref a_READ), .val (.ref b3), .unset] [(.int ((3 : Int32) * (5 : Int32))), (.ref b3)])) _
    rw [(by decide : ((3 : Int32) * (5 : Int32)) = (15 : Int32))]
    show Steps p.tables e below (T3.setTop (mkF m 156 #[.val (.int p0), .val (.int p1), .val (.int (3 : Int32)), .val (.int (0 : Int32)), .val (.ref a_COMMIT), .val (.ref a_READ), .val (.ref b3), .unset] [(.int (15 : Int32)), (.ref b3)])) _
    refine XS.iloadN X3.here hx rfl (hb hby at_156) rfl ?_
    show Steps p.tables e below (T3.setTop (mkF m 157 #[.val (.int p0), .val (.int p1), .val (.int (3 : Int32)), .val (.int (0 : Int32)), .val (.ref a_COMMIT), .val (.ref a_READ), .val (.ref b3), .unset] [(.int (0 : Int32)), (.int (15 : Int32)), (.ref b3)])) _
    refine XS.iadd X3.here hx rfl (hb hby at_157) rfl ?_
    show Steps p.tables e below (T3.setTop (mkF m 158 #[.val (.int p0), .val (.int p1), .val (.int (3 : Int32)), .val (.int (0 : Int32)), .val (.ref a_COMMIT), .val (.ref a_READ), .val (.ref b3), .unset] [(.int ((15 : Int32) + (0 : Int32))), (.ref b3)])) _
    rw [(by decide : ((15 : Int32) + (0 : Int32)) = (15 : Int32))]
    show Steps p.tables e below (T3.setTop (mkF m 158 #[.val (.int p0), .val (.int p1), .val (.int (3 : Int32)), .val (.int (0 : Int32)), .val (.ref a_COMMIT), .val (.ref a_READ), .val (.ref b3), .unset] [(.int (15 : Int32)), (.ref b3)])) _
    refine X3.baloadBooleans hx (j := (15 : Int32)) (v := (.int (0 : Int32))) (by rw [e3]; exact r4.1) (State.isArrayOf_alike hZ.alike r4.2.1) r4.2.2 i4 y4 (g := (mkF m 158 #[.val (.int p0), .val (.int p1), .val (.int (3 : Int32)), .val (.int (0 : Int32)), .val (.ref a_COMMIT), .val (.ref a_READ), .val (.ref b3), .unset] [(.int (15 : Int32)), (.ref b3)])) rfl rfl (hb hby at_158) _ ?_
    show Steps p.tables e below (T3.setTop (mkF m 159 #[.val (.int p0), .val (.int p1), .val (.int (3 : Int32)), .val (.int (0 : Int32)), .val (.ref a_COMMIT), .val (.ref a_READ), .val (.ref b3), .unset] [(.int (0 : Int32))])) _
    refine XS.istore X3.here hx rfl (hb hby at_159) rfl (l' := #[.val (.int p0), .val (.int p1), .val (.int (3 : Int32)), .val (.int (0 : Int32)), .val (.ref a_COMMIT), .val (.ref a_READ), .val (.ref b3), .val (.int (0 : Int32))]) rfl ?_
    show Steps p.tables e below (T3.setTop (mkF m 161 #[.val (.int p0), .val (.int p1), .val (.int (3 : Int32)), .val (.int (0 : Int32)), .val (.ref a_COMMIT), .val (.ref a_READ), .val (.ref b3), .val (.int (0 : Int32))] [])) _
    refine XS.aload X3.here hx rfl (hb hby at_161) rfl rfl ?_
    show Steps p.tables e below (T3.setTop (mkF m 163 #[.val (.int p0), .val (.int p1), .val (.int (3 : Int32)), .val (.int (0 : Int32)), .val (.ref a_COMMIT), .val (.ref a_READ), .val (.ref b3), .val (.int (0 : Int32))] [(.ref a_COMMIT)])) _
    refine XS.aload X3.here hx rfl (hb hby at_163) rfl rfl ?_
    show Steps p.tables e below (T3.setTop (mkF m 165 #[.val (.int p0), .val (.int p1), .val (.int (3 : Int32)), .val (.int (0 : Int32)), .val (.ref a_COMMIT), .val (.ref a_READ), .val (.ref b3), .val (.int (0 : Int32))] [(.ref a_READ), (.ref a_COMMIT)])) _
    refine st5.trans ?_
    show Steps p.tables e below (T5.setTop (mkF m 168 #[.val (.int p0), .val (.int p1), .val (.int (3 : Int32)), .val (.int (0 : Int32)), .val (.ref a_COMMIT), .val (.ref a_READ), .val (.ref b3), .val (.int (0 : Int32))] [(.int (0 : Int32))])) _
    refine XS.iload X5.here hx rfl (hb hby at_168) rfl ?_
    show Steps p.tables e below (T5.setTop (mkF m 170 #[.val (.int p0), .val (.int p1), .val (.int (3 : Int32)), .val (.int (0 : Int32)), .val (.ref a_COMMIT), .val (.ref a_READ), .val (.ref b3), .val (.int (0 : Int32))] [(.int (0 : Int32)), (.int (0 : Int32))])) _
    refine XS.icmpNo X5.here hx rfl (hb hby at_170) rfl (by decide) ?_
    show Steps p.tables e below (T5.setTop (mkF m 173 #[.val (.int p0), .val (.int p1), .val (.int (3 : Int32)), .val (.int (0 : Int32)), .val (.ref a_COMMIT), .val (.ref a_READ), .val (.ref b3), .val (.int (0 : Int32))] [])) _
    refine XS.iconst X5.here hx rfl (hb hby at_173) ?_
    show Steps p.tables e below (T5.setTop (mkF m 174 #[.val (.int p0), .val (.int p1), .val (.int (3 : Int32)), .val (.int (0 : Int32)), .val (.ref a_COMMIT), .val (.ref a_READ), .val (.ref b3), .val (.int (0 : Int32))] [(.int (1 : Int32))])) _
    refine XS.goto X5.here hx rfl (pc0 := 174) (pc' := 178) rfl (hb hby at_174) (by decide) (by decide) ?_
    show Steps p.tables e below (T5.setTop (mkF m 178 #[.val (.int p0), .val (.int p1), .val (.int (3 : Int32)), .val (.int (0 : Int32)), .val (.ref a_COMMIT), .val (.ref a_READ), .val (.ref b3), .val (.int (0 : Int32))] [(.int (1 : Int32))])) _
    exact retN X5 hx (t := .boolean) Bd.returns (by simp) (hb hby at_178) hr
  · exact ⟨rfl, N5⟩
set_option maxRecDepth 65536 in
set_option maxHeartbeats 40000000 in
theorem rm2_16 (l : Launch) (Z : State) (a0 : Array Value) (hw : ∀ d ∈ tables_1, d.before a0 Z = true) (ws : List Jvm.Cond) (p0 p1 : Int32) (a_READ a_COMMIT a_ABORT a_WRITE a_INCREMENT : Addr) (h0 : Heap) (n0 : Nat) (Z0 : n0 ≤ h0.size) (FF : Facts Z h0 a_READ a_COMMIT a_ABORT a_WRITE a_INCREMENT) :
    MetFree l (⟨"com/example/schedulock/schedulock/schedule/OperationKind", "conflictsWith", "(Lcom/example/schedulock/schedulock/schedule/OperationKind;)Z"⟩ : MethodName) (head1 (Jvm.Cond.code (⟨"com/example/schedulock/schedulock/schedule/OperationKind", "conflictsWith", "(Lcom/example/schedulock/schedulock/schedule/OperationKind;)Z"⟩ : MethodName) prog_31_method_5_code 2 (some .boolean) :: ws) ({ frames := 0, cells := 0, slots := 0, locals := 0 } : Room)) (fun a U => a = #[(.ref a_COMMIT), (.ref a_WRITE)] ∧ Z.Warmed39 U.vm ∧ U.heap = h0) (fun _ _ _ _ _ => True) (fun _ U o U' => ∃ v L, o = .returned v ∧ own_Q (.int (0 : Int32)) h0 n0 v U'.heap L ∧ FrameEnd U o U' L ({ frames := 0, cells := 0, slots := 0, locals := 0 } : Room).cells ({ frames := 0, cells := 0, slots := 0, locals := 0 } : Room).slots) := by
  refine MetFree.of_bodySF (plainFor_of_name pn_2) hisR ?_
  intro p e s m args below meth c s₁ Bd hml0 hP hK
  obtain ⟨rfl, hZ, hh⟩ := hP
  have hx := Bd.exec
  have hby := Bd.bytes
  have hml : c.maxLocals = 2 := hml0
  have hown : s.vm.findClass "com/example/schedulock/schedulock/schedule/OperationKind" = some m.cls := findClass_of_methodNamed Bd.named
  have X0 : Stand p l e ({ frames := 0, cells := 0, slots := 0, locals := 0 } : Room) s m #[(.ref a_COMMIT), (.ref a_WRITE)] below meth c s₁ [] 0 0 := Stand.of_body Bd
  have e0 : s₁.heap = h0 := by rw [← hh, Bd.state]; rfl
  have N0 := Fr.nil n0
  have pre0 : ∀ t, Steps p.tables e below (s₁.setTop (mkF m 0 #[.val (.ref a_COMMIT), .val (.ref a_WRITE)] [])) t → Steps p.tables e below (s₁.setTop (entryFrame m #[(.ref a_COMMIT), (.ref a_WRITE)] 2)) t := fun t k => castTop (ef_2 m a_COMMIT a_WRITE) k
  obtain ⟨T1, X1, e1, st1⟩ := getF X0 hx hZ hown (host := "") (Or.inl (hw _ (List.mem_of_getElem? (i := 16) rfl))) Via.refl e0 (fx_F_COMMIT_takesItem FF) (g := (mkF m 1 #[.val (.ref a_COMMIT), .val (.ref a_WRITE)] [(.ref a_COMMIT)])) rfl rfl (hb hby d2_1)
  obtain ⟨fs, hr, hrun, hended, hW, hsame⟩ := X1.leave (v := some (.int (0 : Int32))) (fun h => by rw [Bd.returns] at h; cases h)
  refine ⟨_, _, pre0 _ ?_, hrun, hended, _, _, rfl, ?_, ⟨_, rfl⟩, hW, hsame.mono (by decide) (by decide)⟩
  · show Steps p.tables e below (s₁.setTop (mkF m 0 #[.val (.ref a_COMMIT), .val (.ref a_WRITE)] [])) _
    refine XS.aloadN X0.here hx rfl (hb hby d2_0) rfl rfl ?_
    show Steps p.tables e below (s₁.setTop (mkF m 1 #[.val (.ref a_COMMIT), .val (.ref a_WRITE)] [(.ref a_COMMIT)])) _
    refine st1 _ ?_
    show Steps p.tables e below (T1.setTop (mkF m 4 #[.val (.ref a_COMMIT), .val (.ref a_WRITE)] [(.int (0 : Int32))])) _
    refine XS.ifYes X1.here hx rfl (pc0 := 4) (pc' := 30) rfl (hb hby d2_4) rfl (by decide) (by decide) (by decide) ?_
    show Steps p.tables e below (T1.setTop (mkF m 30 #[.val (.ref a_COMMIT), .val (.ref a_WRITE)] [])) _
    refine XS.iconst X1.here hx rfl (hb hby d2_30) ?_
    show Steps p.tables e below (T1.setTop (mkF m 31 #[.val (.ref a_COMMIT), .val (.ref a_WRITE)] [(.int (0 : Int32))])) _
    exact retN X1 hx (t := .boolean) Bd.returns (by simp) (hb hby d2_31) hr
  · show own_Q _ _ _ _ T1.heap _
    exact ⟨rfl, N0, e1⟩
set_option maxRecDepth 65536 in
set_option maxHeartbeats 40000000 in
theorem rm0_16 (l : Launch) (Z : State) (a0 : Array Value) (hw : ∀ d ∈ tables_1, d.before a0 Z = true) (ws : List Jvm.Cond) (p0 p1 : Int32) (a_READ a_COMMIT a_ABORT a_WRITE a_INCREMENT : Addr) (h0 : Heap) (n0 : Nat) (Z0 : n0 ≤ h0.size) (FF : Facts Z h0 a_READ a_COMMIT a_ABORT a_WRITE a_INCREMENT) (hk0 : ((p0 &&& (2147483647 : Int32)) % (5 : Int32)) = (3 : Int32)) (hk1 : ((p1 &&& (2147483647 : Int32)) % (5 : Int32)) = (1 : Int32)) :
    MetFree l x (head1 (Jvm.Cond.code x code maxLocals ret :: ws) room_1) (fun a U => a = #[(.int p0), (.int p1)] ∧ Z.Warmed39 U.vm ∧ U.heap = h0) (fun _ _ _ _ _ => True) (fun _ U o U' => ∃ v L, o = .returned v ∧ (v = some (.int (1 : Int32)) ∧ Fr n0 L) ∧ FrameEnd U o U' L room_1.cells room_1.slots) := by
  refine MetFree.of_bodySF (plainFor_of_name pn_0) hisR ?_
  intro p e s m args below meth c s₁ Bd hml0 hP hK
  obtain ⟨rfl, hZ, hh⟩ := hP
  have hx := Bd.exec
  have hby := Bd.bytes
  have hml : c.maxLocals = 8 := hml0
  have hown : s.vm.findClass "com/example/schedulock/schedulock/schedule/OperationKindConflictsWithPinLaw" = some m.cls := findClass_of_methodNamed Bd.named
  have X0 : Stand p l e room_1 s m #[(.int p0), (.int p1)] below meth c s₁ [] 0 0 := Stand.of_body Bd
  have e0 : s₁.heap = h0 := by rw [← hh, Bd.state]; rfl
  have N0 := Fr.nil n0
  have pre0 : ∀ t, Steps p.tables e below (s₁.setTop (mkF m 0 #[.val (.int p0), .val (.int p1), .unset, .unset, .unset, .unset, .unset, .unset] [])) t → Steps p.tables e below (s₁.setTop (entryFrame m #[(.int p0), (.int p1)] maxLocals)) t := fun t k => castTop (ef_0 m p0 p1) k
  obtain ⟨_, _, ⟨T1, L1, k1, n1⟩, -, X1, ⟨Lc1, hQ1, l1, y1, z1⟩, st1⟩ := Jvm.LawKit.callS X0 hx (y := (⟨"com/example/schedulock/schedulock/schedule/OperationKindConflictsWithPinLaw", "kind", "(I)Lcom/example/schedulock/schedulock/schedule/OperationKind;"⟩ : MethodName)) hown (mvT hZ (hw _ (List.mem_of_getElem? (i := 1) rfl))) (mvT hZ (hw _ (List.mem_of_getElem? (i := 2) rfl))) (mvT hZ (hw _ (List.mem_of_getElem? (i := 3) rfl))) (mvT hZ (hw _ (List.mem_of_getElem? (i := 4) rfl))) (by decide) (backOf (W := 0) (rm1_3 l Z a0 hw [] p0 p1 a_READ a_COMMIT a_ABORT a_WRITE a_INCREMENT h0 n0 (Nat.le_trans Z0 (Nat.le_refl _)) FF) hZ (hw _ (List.mem_of_getElem? (i := 4) rfl)) (hw _ (List.mem_of_getElem? (i := 3) rfl)) (by decide) (by decide)) (g := (mkF m 15 #[.val (.int p0), .val (.int p1), .val (.int (3 : Int32)), .val (.int (1 : Int32)), .unset, .unset, .unset, .unset] [(.int (3 : Int32))])) rfl (by rw [hml]; rfl) (argsL := [(.int (3 : Int32))]) (rest := []) (lenOf pd_0 rfl) rfl (by show 2 * 0 + _ ≤ _; exact Nat.le_of_eq rfl) (hb hby at_15) (fun _ _ => ⟨rfl, e0, (by decide : 0 + 0 ≤ _), (by decide : 0 + 0 ≤ _)⟩)
  dsimp only [Pt.U, Pt.locs, Pt.cells, Pt.slots] at X1 l1 y1 z1 st1 hQ1
  subst l1 y1 z1
  obtain ⟨rfl, N1q, e1⟩ := hQ1
  have N1 := Fr.app N0 N1q
  obtain ⟨_, _, ⟨T2, L2, k2, n2⟩, -, X2, ⟨Lc2, hQ2, l2, y2, z2⟩, st2⟩ := Jvm.LawKit.callS X1 hx (y := (⟨"com/example/schedulock/schedulock/schedule/OperationKindConflictsWithPinLaw", "kind", "(I)Lcom/example/schedulock/schedulock/schedule/OperationKind;"⟩ : MethodName)) hown (mvT hZ (hw _ (List.mem_of_getElem? (i := 1) rfl))) (mvT hZ (hw _ (List.mem_of_getElem? (i := 2) rfl))) (mvT hZ (hw _ (List.mem_of_getElem? (i := 3) rfl))) (mvT hZ (hw _ (List.mem_of_getElem? (i := 4) rfl))) (by decide) (backOf (W := 0) (rm1_1 l Z a0 hw [] p0 p1 a_READ a_COMMIT a_ABORT a_WRITE a_INCREMENT h0 n0 (Nat.le_trans Z0 (Nat.le_refl _)) FF) hZ (hw _ (List.mem_of_getElem? (i := 4) rfl)) (hw _ (List.mem_of_getElem? (i := 3) rfl)) (by decide) (by decide)) (g := (mkF m 21 #[.val (.int p0), .val (.int p1), .val (.int (3 : Int32)), .val (.int (1 : Int32)), .val (.ref a_COMMIT), .unset, .unset, .unset] [(.int (1 : Int32))])) rfl (by rw [hml]; rfl) (argsL := [(.int (1 : Int32))]) (rest := []) (lenOf pd_0 rfl) rfl (by show 2 * 0 + _ ≤ _; exact Nat.le_of_eq rfl) (hb hby at_21) (fun _ _ => ⟨rfl, e1, (by decide : 0 + 0 ≤ _), (by decide : 0 + 0 ≤ _)⟩)
  dsimp only [Pt.U, Pt.locs, Pt.cells, Pt.slots] at X2 l2 y2 z2 st2 hQ2
  subst l2 y2 z2
  obtain ⟨rfl, N2q, e2⟩ := hQ2
  have N2 := Fr.app N1 N2q
  obtain ⟨T3, h3, b3, k3, lc3, X3, e3, s_b3, z3, N3, FF3, V3, st3⟩ := seg_0 (l := l) (Z := Z) hw a_READ a_COMMIT a_ABORT a_WRITE a_INCREMENT p0 p1 (3 : Int32) (1 : Int32) a_COMMIT a_WRITE X2 hx hZ hby hml hown e2 Z0 N2 FF
  obtain ⟨c4, r4, -, S4, -, H4, -⟩ := V3
  have i4 : ¬ ((16 : Int32) < 0 ∨ c4.slots.size ≤ ((16 : Int32)).toNatClampNeg) := inb_of S4 ⟨by decide, by decide⟩
  have y4 : c4.slots[((16 : Int32)).toNatClampNeg]? = some (.int (0 : Int32)) := H4 16 (by rw [S4]; decide)
  obtain ⟨cq5, kq5, q5a, q5b, q5c⟩ := isOf hZ e3 (fx_E_COMMIT FF3)
  obtain ⟨_, _, ⟨T5, L5, k5, n5⟩, -, X5, ⟨Lc5, hQ5, l5, y5, z5⟩, st5⟩ := X3.virtualBack hx (y := (⟨"com/example/schedulock/schedulock/schedule/OperationKind", "conflictsWith", "(Lcom/example/schedulock/schedulock/schedule/OperationKind;)Z"⟩ : MethodName)) (z := (⟨"com/example/schedulock/schedulock/schedule/OperationKind", "conflictsWith", "(Lcom/example/schedulock/schedulock/schedule/OperationKind;)Z"⟩ : MethodName)) hown (mvT hZ (hw _ (List.mem_of_getElem? (i := 11) rfl))) (mvT hZ (hw _ (List.mem_of_getElem? (i := 12) rfl))) (notFace_of_selects (args := #[]) (mvT hZ (hw _ (List.mem_of_getElem? (i := 14) rfl)))) (mvT hZ (hw _ (List.mem_of_getElem? (i := 14) rfl))) (mvT hZ (hw _ (List.mem_of_getElem? (i := 13) rfl))) (by decide) (backOf (W := 0) (rm2_16 l Z a0 hw [] p0 p1 a_READ a_COMMIT a_ABORT a_WRITE a_INCREMENT h3 n0 (Nat.le_trans Z0 z3) FF3) hZ (hw _ (List.mem_of_getElem? (i := 15) rfl)) (hw _ (List.mem_of_getElem? (i := 6) rfl)) (by decide) (by decide)) q5a q5c (g := (mkF m 165 #[.val (.int p0), .val (.int p1), .val (.int (3 : Int32)), .val (.int (1 : Int32)), .val (.ref a_COMMIT), .val (.ref a_WRITE), .val (.ref b3), .val (.int (0 : Int32))] [(.ref a_WRITE), (.ref a_COMMIT)])) rfl (by rw [hml]; rfl) (Steps.refl _) (argsL := [(.ref a_WRITE)]) (rest := []) (lenOf pd_1 rfl) rfl (by show 2 * 0 + _ ≤ _; exact Nat.le_of_eq rfl) (hb hby at_165) (fun _ _ => ⟨rfl, e3, (by decide : 1 + 0 ≤ _), (by decide : 25 + 0 ≤ _)⟩)
  dsimp only [Pt.U, Pt.locs, Pt.cells, Pt.slots] at X5 l5 y5 z5 st5 hQ5
  subst l5 y5 z5
  obtain ⟨rfl, N5q, e5⟩ := hQ5
  have N5 := Fr.app N3 N5q
  obtain ⟨fs, hr, hrun, hended, hW, hsame⟩ := X5.leave (v := some (.int (1 : Int32))) (fun h => by rw [Bd.returns] at h; cases h)
  refine ⟨_, _, pre0 _ ?_, hrun, hended, _, _, rfl, ?_, ⟨_, rfl⟩, hW, hsame.mono (by decide) (by decide)⟩
  · show Steps p.tables e below (s₁.setTop (mkF m 0 #[.val (.int p0), .val (.int p1), .unset, .unset, .unset, .unset, .unset, .unset] [])) _
    refine XS.iloadN X0.here hx rfl (hb hby at_0) rfl ?_
    show Steps p.tables e below (s₁.setTop (mkF m 1 #[.val (.int p0), .val (.int p1), .unset, .unset, .unset, .unset, .unset, .unset] [(.int p0)])) _
    refine X0.ldcInt hx hown (mvT hZ (hw _ (List.mem_of_getElem? (i := 0) rfl))) (g := (mkF m 1 #[.val (.int p0), .val (.int p1), .unset, .unset, .unset, .unset, .unset, .unset] [(.int p0)])) rfl (hb hby at_1) _ ?_
    show Steps p.tables e below (s₁.setTop (mkF m 3 #[.val (.int p0), .val (.int p1), .unset, .unset, .unset, .unset, .unset, .unset] [(.int (2147483647 : Int32)), (.int p0)])) _
    refine XS.iand X0.here hx rfl (hb hby at_3) rfl ?_
    show Steps p.tables e below (s₁.setTop (mkF m 4 #[.val (.int p0), .val (.int p1), .unset, .unset, .unset, .unset, .unset, .unset] [(.int (p0 &&& (2147483647 : Int32)))])) _
    refine XS.iconst X0.here hx rfl (hb hby at_4) ?_
    show Steps p.tables e below (s₁.setTop (mkF m 5 #[.val (.int p0), .val (.int p1), .unset, .unset, .unset, .unset, .unset, .unset] [(.int (5 : Int32)), (.int (p0 &&& (2147483647 : Int32)))])) _
    refine iremM X0 hx rfl (hb hby at_5) rfl (by decide) ?_
    show Steps p.tables e below (s₁.setTop (mkF m 6 #[.val (.int p0), .val (.int p1), .unset, .unset, .unset, .unset, .unset, .unset] [(.int ((p0 &&& (2147483647 : Int32)) % (5 : Int32)))])) _
    rw [hk0]
    show Steps p.tables e below (s₁.setTop (mkF m 6 #[.val (.int p0), .val (.int p1), .unset, .unset, .unset, .unset, .unset, .unset] [(.int (3 : Int32))])) _
    refine XS.istoreN X0.here hx rfl (hb hby at_6) rfl (l' := #[.val (.int p0), .val (.int p1), .val (.int (3 : Int32)), .unset, .unset, .unset, .unset, .unset]) rfl ?_
    show Steps p.tables e below (s₁.setTop (mkF m 7 #[.val (.int p0), .val (.int p1), .val (.int (3 : Int32)), .unset, .unset, .unset, .unset, .unset] [])) _
    refine XS.iloadN X0.here hx rfl (hb hby at_7) rfl ?_
    show Steps p.tables e below (s₁.setTop (mkF m 8 #[.val (.int p0), .val (.int p1), .val (.int (3 : Int32)), .unset, .unset, .unset, .unset, .unset] [(.int p1)])) _
    refine X0.ldcInt hx hown (mvT hZ (hw _ (List.mem_of_getElem? (i := 0) rfl))) (g := (mkF m 8 #[.val (.int p0), .val (.int p1), .val (.int (3 : Int32)), .unset, .unset, .unset, .unset, .unset] [(.int p1)])) rfl (hb hby at_8) _ ?_
    show Steps p.tables e below (s₁.setTop (mkF m 10 #[.val (.int p0), .val (.int p1), .val (.int (3 : Int32)), .unset, .unset, .unset, .unset, .unset] [(.int (2147483647 : Int32)), (.int p1)])) _
    refine XS.iand X0.here hx rfl (hb hby at_10) rfl ?_
    show Steps p.tables e below (s₁.setTop (mkF m 11 #[.val (.int p0), .val (.int p1), .val (.int (3 : Int32)), .unset, .unset, .unset, .unset, .unset] [(.int (p1 &&& (2147483647 : Int32)))])) _
    refine XS.iconst X0.here hx rfl (hb hby at_11) ?_
    show Steps p.tables e below (s₁.setTop (mkF m 12 #[.val (.int p0), .val (.int p1), .val (.int (3 : Int32)), .unset, .unset, .unset, .unset, .unset] [(.int (5 : Int32)), (.int (p1 &&& (2147483647 : Int32)))])) _
    refine iremM X0 hx rfl (hb hby at_12) rfl (by decide) ?_
    show Steps p.tables e below (s₁.setTop (mkF m 13 #[.val (.int p0), .val (.int p1), .val (.int (3 : Int32)), .unset, .unset, .unset, .unset, .unset] [(.int ((p1 &&& (2147483647 : Int32)) % (5 : Int32)))])) _
    rw [hk1]
    show Steps p.tables e below (s₁.setTop (mkF m 13 #[.val (.int p0), .val (.int p1), .val (.int (3 : Int32)), .unset, .unset, .unset, .unset, .unset] [(.int (1 : Int32))])) _
    refine XS.istoreN X0.here hx rfl (hb hby at_13) rfl (l' := #[.val (.int p0), .val (.int p1), .val (.int (3 : Int32)), .val (.int (1 : Int32)), .unset, .unset, .unset, .unset]) rfl ?_
    show Steps p.tables e below (s₁.setTop (mkF m 14 #[.val (.int p0), .val (.int p1), .val (.int (3 : Int32)), .val (.int (1 : Int32)), .unset, .unset, .unset, .unset] [])) _
    refine XS.iloadN X0.here hx rfl (hb hby at_14) rfl ?_
    show Steps p.tables e below (s₁.setTop (mkF m 15 #[.val (.int p0), .val (.int p1), .val (.int (3 : Int32)), .val (.int (1 : Int32)), .unset, .unset, .unset, .unset] [(.int (3 : Int32))])) _
    refine st1 _ ?_
    show Steps p.tables e below (T1.setTop (mkF m 18 #[.val (.int p0), .val (.int p1), .val (.int (3 : Int32)), .val (.int (1 : Int32)), .unset, .unset, .unset, .unset] [(.ref a_COMMIT)])) _
    refine XS.astore X1.here hx rfl (hb hby at_18) rfl rfl (l' := #[.val (.int p0), .val (.int p1), .val (.int (3 : Int32)), .val (.int (1 : Int32)), .val (.ref a_COMMIT), .unset, .unset, .unset]) rfl ?_
    show Steps p.tables e below (T1.setTop (mkF m 20 #[.val (.int p0), .val (.int p1), .val (.int (3 : Int32)), .val (.int (1 : Int32)), .val (.ref a_COMMIT), .unset, .unset, .unset] [])) _
    refine XS.iloadN X1.here hx rfl (hb hby at_20) rfl ?_
    show Steps p.tables e below (T1.setTop (mkF m 21 #[.val (.int p0), .val (.int p1), .val (.int (3 : Int32)), .val (.int (1 : Int32)), .val (.ref a_COMMIT), .unset, .unset, .unset] [(.int (1 : Int32))])) _
    refine st2 _ ?_
    show Steps p.tables e below (T2.setTop (mkF m 24 #[.val (.int p0), .val (.int p1), .val (.int (3 : Int32)), .val (.int (1 : Int32)), .val (.ref a_COMMIT), .unset, .unset, .unset] [(.ref a_WRITE)])) _
    refine XS.astore X2.here hx rfl (hb hby at_24) rfl rfl (l' := #[.val (.int p0), .val (.int p1), .val (.int (3 : Int32)), .val (.int (1 : Int32)), .val (.ref a_COMMIT), .val (.ref a_WRITE), .unset, .unset]) rfl ?_
    show Steps p.tables e below (T2.setTop (mkF m 26 #[.val (.int p0), .val (.int p1), .val (.int (3 : Int32)), .val (.int (1 : Int32)), .val (.ref a_COMMIT), .val (.ref a_WRITE), .unset, .unset] [])) _
    refine st3 _ ?_
    show Steps p.tables e below (T3.setTop (mkF m 151 #[.val (.int p0), .val (.int p1), .val (.int (3 : Int32)), .val (.int (1 : Int32)), .val (.ref a_COMMIT), .val (.ref a_WRITE), .val (.ref b3), .unset] [])) _
    refine XS.aload X3.here hx rfl (hb hby at_151) rfl rfl ?_
    show Steps p.tables e below (T3.setTop (mkF m 153 #[.val (.int p0), .val (.int p1), .val (.int (3 : Int32)), .val (.int (1 : Int32)), .val (.ref a_COMMIT), .val (.ref a_WRITE), .val (.ref b3), .unset] [(.ref b3)])) _
    refine XS.iloadN X3.here hx rfl (hb hby at_153) rfl ?_
    show Steps p.tables e below (T3.setTop (mkF m 154 #[.val (.int p0), .val (.int p1), .val (.int (3 : Int32)), .val (.int (1 : Int32)), .val (.ref a_COMMIT), .val (.ref a_WRITE), .val (.ref b3), .unset] [(.int (3 : Int32)), (.ref b3)])) _
    refine XS.iconst X3.here hx rfl (hb hby at_154) ?_
    show Steps p.tables e below (T3.setTop (mkF m 155 #[.val (.int p0), .val (.int p1), .val (.int (3 : Int32)), .val (.int (1 : Int32)), .val (.ref a_COMMIT), .val (.ref a_WRITE), .val (.ref b3), .unset] [(.int (5 : Int32)), (.int (3 : Int32)), (.ref b3)])) _
    refine XS.imul X3.here hx rfl (hb hby at_155) rfl ?_
    show Steps p.tables e below (T3.setTop (mkF m 156 #[.val (.int p0), .val (.int p1), .val (.int (3 : Int32)), .val (.int (1 : Int32)), .val (.ref a_COMMIT), .val (.ref a_WRITE), .val (.ref b3), .unset] [(.int ((3 : Int32) * (5 : Int32))), (.ref b3)])) _
    rw [(by decide : ((3 : Int32) * (5 : Int32)) = (15 : Int32))]
    show Steps p.tables e below (T3.setTop (mkF m 156 #[.val (.int p0), .val (.int p1), .val (.int (3 : Int32)), .val (.int (1 : Int32)), .val (.ref a_COMMIT), .val (.ref a_WRITE), .val (.ref b3), .unset] [(.int (15 : Int32)), (.ref b3)])) _
    refine XS.iloadN X3.here hx rfl (hb hby at_156) rfl ?_
    show Steps p.tables e below (T3.setTop (mkF m 157 #[.val (.int p0), .val (.int p1), .val (.int (3 : Int32)), .val (.int (1 : Int32)), .val (.ref a_COMMIT), .val (.ref a_WRITE), .val (.ref b3), .unset] [(.int (1 : Int32)), (.int (15 : Int32)), (.ref b3)])) _
    refine XS.iadd X3.here hx rfl (hb hby at_157) rfl ?_
    show Steps p.tables e below (T3.setTop (mkF m 158 #[.val (.int p0), .val (.int p1), .val (.int (3 : Int32)), .val (.int (1 : Int32)), .val (.ref a_COMMIT), .val (.ref a_WRITE), .val (.ref b3), .unset] [(.int ((15 : Int32) + (1 : Int32))), (.ref b3)])) _
    rw [(by decide : ((15 : Int32) + (1 : Int32)) = (16 : Int32))]
    show Steps p.tables e below (T3.setTop (mkF m 158 #[.val (.int p0), .val (.int p1), .val (.int (3 : Int32)), .val (.int (1 : Int32)), .val (.ref a_COMMIT), .val (.ref a_WRITE), .val (.ref b3), .unset] [(.int (16 : Int32)), (.ref b3)])) _
    refine X3.baloadBooleans hx (j := (16 : Int32)) (v := (.int (0 : Int32))) (by rw [e3]; exact r4.1) (State.isArrayOf_alike hZ.alike r4.2.1) r4.2.2 i4 y4 (g := (mkF m 158 #[.val (.int p0), .val (.int p1), .val (.int (3 : Int32)), .val (.int (1 : Int32)), .val (.ref a_COMMIT), .val (.ref a_WRITE), .val (.ref b3), .unset] [(.int (16 : Int32)), (.ref b3)])) rfl rfl (hb hby at_158) _ ?_
    show Steps p.tables e below (T3.setTop (mkF m 159 #[.val (.int p0), .val (.int p1), .val (.int (3 : Int32)), .val (.int (1 : Int32)), .val (.ref a_COMMIT), .val (.ref a_WRITE), .val (.ref b3), .unset] [(.int (0 : Int32))])) _
    refine XS.istore X3.here hx rfl (hb hby at_159) rfl (l' := #[.val (.int p0), .val (.int p1), .val (.int (3 : Int32)), .val (.int (1 : Int32)), .val (.ref a_COMMIT), .val (.ref a_WRITE), .val (.ref b3), .val (.int (0 : Int32))]) rfl ?_
    show Steps p.tables e below (T3.setTop (mkF m 161 #[.val (.int p0), .val (.int p1), .val (.int (3 : Int32)), .val (.int (1 : Int32)), .val (.ref a_COMMIT), .val (.ref a_WRITE), .val (.ref b3), .val (.int (0 : Int32))] [])) _
    refine XS.aload X3.here hx rfl (hb hby at_161) rfl rfl ?_
    show Steps p.tables e below (T3.setTop (mkF m 163 #[.val (.int p0), .val (.int p1), .val (.int (3 : Int32)), .val (.int (1 : Int32)), .val (.ref a_COMMIT), .val (.ref a_WRITE), .val (.ref b3), .val (.int (0 : Int32))] [(.ref a_COMMIT)])) _
    refine XS.aload X3.here hx rfl (hb hby at_163) rfl rfl ?_
    show Steps p.tables e below (T3.setTop (mkF m 165 #[.val (.int p0), .val (.int p1), .val (.int (3 : Int32)), .val (.int (1 : Int32)), .val (.ref a_COMMIT), .val (.ref a_WRITE), .val (.ref b3), .val (.int (0 : Int32))] [(.ref a_WRITE), (.ref a_COMMIT)])) _
    refine st5.trans ?_
    show Steps p.tables e below (T5.setTop (mkF m 168 #[.val (.int p0), .val (.int p1), .val (.int (3 : Int32)), .val (.int (1 : Int32)), .val (.ref a_COMMIT), .val (.ref a_WRITE), .val (.ref b3), .val (.int (0 : Int32))] [(.int (0 : Int32))])) _
    refine XS.iload X5.here hx rfl (hb hby at_168) rfl ?_
    show Steps p.tables e below (T5.setTop (mkF m 170 #[.val (.int p0), .val (.int p1), .val (.int (3 : Int32)), .val (.int (1 : Int32)), .val (.ref a_COMMIT), .val (.ref a_WRITE), .val (.ref b3), .val (.int (0 : Int32))] [(.int (0 : Int32)), (.int (0 : Int32))])) _
    refine XS.icmpNo X5.here hx rfl (hb hby at_170) rfl (by decide) ?_
    show Steps p.tables e below (T5.setTop (mkF m 173 #[.val (.int p0), .val (.int p1), .val (.int (3 : Int32)), .val (.int (1 : Int32)), .val (.ref a_COMMIT), .val (.ref a_WRITE), .val (.ref b3), .val (.int (0 : Int32))] [])) _
    refine XS.iconst X5.here hx rfl (hb hby at_173) ?_
    show Steps p.tables e below (T5.setTop (mkF m 174 #[.val (.int p0), .val (.int p1), .val (.int (3 : Int32)), .val (.int (1 : Int32)), .val (.ref a_COMMIT), .val (.ref a_WRITE), .val (.ref b3), .val (.int (0 : Int32))] [(.int (1 : Int32))])) _
    refine XS.goto X5.here hx rfl (pc0 := 174) (pc' := 178) rfl (hb hby at_174) (by decide) (by decide) ?_
    show Steps p.tables e below (T5.setTop (mkF m 178 #[.val (.int p0), .val (.int p1), .val (.int (3 : Int32)), .val (.int (1 : Int32)), .val (.ref a_COMMIT), .val (.ref a_WRITE), .val (.ref b3), .val (.int (0 : Int32))] [(.int (1 : Int32))])) _
    exact retN X5 hx (t := .boolean) Bd.returns (by simp) (hb hby at_178) hr
  · exact ⟨rfl, N5⟩
set_option maxRecDepth 65536 in
set_option maxHeartbeats 40000000 in
theorem rm2_17 (l : Launch) (Z : State) (a0 : Array Value) (hw : ∀ d ∈ tables_1, d.before a0 Z = true) (ws : List Jvm.Cond) (p0 p1 : Int32) (a_READ a_COMMIT a_ABORT a_WRITE a_INCREMENT : Addr) (h0 : Heap) (n0 : Nat) (Z0 : n0 ≤ h0.size) (FF : Facts Z h0 a_READ a_COMMIT a_ABORT a_WRITE a_INCREMENT) :
    MetFree l (⟨"com/example/schedulock/schedulock/schedule/OperationKind", "conflictsWith", "(Lcom/example/schedulock/schedulock/schedule/OperationKind;)Z"⟩ : MethodName) (head1 (Jvm.Cond.code (⟨"com/example/schedulock/schedulock/schedule/OperationKind", "conflictsWith", "(Lcom/example/schedulock/schedulock/schedule/OperationKind;)Z"⟩ : MethodName) prog_31_method_5_code 2 (some .boolean) :: ws) ({ frames := 0, cells := 0, slots := 0, locals := 0 } : Room)) (fun a U => a = #[(.ref a_COMMIT), (.ref a_INCREMENT)] ∧ Z.Warmed39 U.vm ∧ U.heap = h0) (fun _ _ _ _ _ => True) (fun _ U o U' => ∃ v L, o = .returned v ∧ own_Q (.int (0 : Int32)) h0 n0 v U'.heap L ∧ FrameEnd U o U' L ({ frames := 0, cells := 0, slots := 0, locals := 0 } : Room).cells ({ frames := 0, cells := 0, slots := 0, locals := 0 } : Room).slots) := by
  refine MetFree.of_bodySF (plainFor_of_name pn_2) hisR ?_
  intro p e s m args below meth c s₁ Bd hml0 hP hK
  obtain ⟨rfl, hZ, hh⟩ := hP
  have hx := Bd.exec
  have hby := Bd.bytes
  have hml : c.maxLocals = 2 := hml0
  have hown : s.vm.findClass "com/example/schedulock/schedulock/schedule/OperationKind" = some m.cls := findClass_of_methodNamed Bd.named
  have X0 : Stand p l e ({ frames := 0, cells := 0, slots := 0, locals := 0 } : Room) s m #[(.ref a_COMMIT), (.ref a_INCREMENT)] below meth c s₁ [] 0 0 := Stand.of_body Bd
  have e0 : s₁.heap = h0 := by rw [← hh, Bd.state]; rfl
  have N0 := Fr.nil n0
  have pre0 : ∀ t, Steps p.tables e below (s₁.setTop (mkF m 0 #[.val (.ref a_COMMIT), .val (.ref a_INCREMENT)] [])) t → Steps p.tables e below (s₁.setTop (entryFrame m #[(.ref a_COMMIT), (.ref a_INCREMENT)] 2)) t := fun t k => castTop (ef_2 m a_COMMIT a_INCREMENT) k
  obtain ⟨T1, X1, e1, st1⟩ := getF X0 hx hZ hown (host := "") (Or.inl (hw _ (List.mem_of_getElem? (i := 16) rfl))) Via.refl e0 (fx_F_COMMIT_takesItem FF) (g := (mkF m 1 #[.val (.ref a_COMMIT), .val (.ref a_INCREMENT)] [(.ref a_COMMIT)])) rfl rfl (hb hby d2_1)
  obtain ⟨fs, hr, hrun, hended, hW, hsame⟩ := X1.leave (v := some (.int (0 : Int32))) (fun h => by rw [Bd.returns] at h; cases h)
  refine ⟨_, _, pre0 _ ?_, hrun, hended, _, _, rfl, ?_, ⟨_, rfl⟩, hW, hsame.mono (by decide) (by decide)⟩
  · show Steps p.tables e below (s₁.setTop (mkF m 0 #[.val (.ref a_COMMIT), .val (.ref a_INCREMENT)] [])) _
    refine XS.aloadN X0.here hx rfl (hb hby d2_0) rfl rfl ?_
    show Steps p.tables e below (s₁.setTop (mkF m 1 #[.val (.ref a_COMMIT), .val (.ref a_INCREMENT)] [(.ref a_COMMIT)])) _
    refine st1 _ ?_
    show Steps p.tables e below (T1.setTop (mkF m 4 #[.val (.ref a_COMMIT), .val (.ref a_INCREMENT)] [(.int (0 : Int32))])) _
    refine XS.ifYes X1.here hx rfl (pc0 := 4) (pc' := 30) rfl (hb hby d2_4) rfl (by decide) (by decide) (by decide) ?_
    show Steps p.tables e below (T1.setTop (mkF m 30 #[.val (.ref a_COMMIT), .val (.ref a_INCREMENT)] [])) _
    refine XS.iconst X1.here hx rfl (hb hby d2_30) ?_
    show Steps p.tables e below (T1.setTop (mkF m 31 #[.val (.ref a_COMMIT), .val (.ref a_INCREMENT)] [(.int (0 : Int32))])) _
    exact retN X1 hx (t := .boolean) Bd.returns (by simp) (hb hby d2_31) hr
  · show own_Q _ _ _ _ T1.heap _
    exact ⟨rfl, N0, e1⟩
set_option maxRecDepth 65536 in
set_option maxHeartbeats 40000000 in
theorem rm0_17 (l : Launch) (Z : State) (a0 : Array Value) (hw : ∀ d ∈ tables_1, d.before a0 Z = true) (ws : List Jvm.Cond) (p0 p1 : Int32) (a_READ a_COMMIT a_ABORT a_WRITE a_INCREMENT : Addr) (h0 : Heap) (n0 : Nat) (Z0 : n0 ≤ h0.size) (FF : Facts Z h0 a_READ a_COMMIT a_ABORT a_WRITE a_INCREMENT) (hk0 : ((p0 &&& (2147483647 : Int32)) % (5 : Int32)) = (3 : Int32)) (hk1 : ((p1 &&& (2147483647 : Int32)) % (5 : Int32)) = (2 : Int32)) :
    MetFree l x (head1 (Jvm.Cond.code x code maxLocals ret :: ws) room_1) (fun a U => a = #[(.int p0), (.int p1)] ∧ Z.Warmed39 U.vm ∧ U.heap = h0) (fun _ _ _ _ _ => True) (fun _ U o U' => ∃ v L, o = .returned v ∧ (v = some (.int (1 : Int32)) ∧ Fr n0 L) ∧ FrameEnd U o U' L room_1.cells room_1.slots) := by
  refine MetFree.of_bodySF (plainFor_of_name pn_0) hisR ?_
  intro p e s m args below meth c s₁ Bd hml0 hP hK
  obtain ⟨rfl, hZ, hh⟩ := hP
  have hx := Bd.exec
  have hby := Bd.bytes
  have hml : c.maxLocals = 8 := hml0
  have hown : s.vm.findClass "com/example/schedulock/schedulock/schedule/OperationKindConflictsWithPinLaw" = some m.cls := findClass_of_methodNamed Bd.named
  have X0 : Stand p l e room_1 s m #[(.int p0), (.int p1)] below meth c s₁ [] 0 0 := Stand.of_body Bd
  have e0 : s₁.heap = h0 := by rw [← hh, Bd.state]; rfl
  have N0 := Fr.nil n0
  have pre0 : ∀ t, Steps p.tables e below (s₁.setTop (mkF m 0 #[.val (.int p0), .val (.int p1), .unset, .unset, .unset, .unset, .unset, .unset] [])) t → Steps p.tables e below (s₁.setTop (entryFrame m #[(.int p0), (.int p1)] maxLocals)) t := fun t k => castTop (ef_0 m p0 p1) k
  obtain ⟨_, _, ⟨T1, L1, k1, n1⟩, -, X1, ⟨Lc1, hQ1, l1, y1, z1⟩, st1⟩ := Jvm.LawKit.callS X0 hx (y := (⟨"com/example/schedulock/schedulock/schedule/OperationKindConflictsWithPinLaw", "kind", "(I)Lcom/example/schedulock/schedulock/schedule/OperationKind;"⟩ : MethodName)) hown (mvT hZ (hw _ (List.mem_of_getElem? (i := 1) rfl))) (mvT hZ (hw _ (List.mem_of_getElem? (i := 2) rfl))) (mvT hZ (hw _ (List.mem_of_getElem? (i := 3) rfl))) (mvT hZ (hw _ (List.mem_of_getElem? (i := 4) rfl))) (by decide) (backOf (W := 0) (rm1_3 l Z a0 hw [] p0 p1 a_READ a_COMMIT a_ABORT a_WRITE a_INCREMENT h0 n0 (Nat.le_trans Z0 (Nat.le_refl _)) FF) hZ (hw _ (List.mem_of_getElem? (i := 4) rfl)) (hw _ (List.mem_of_getElem? (i := 3) rfl)) (by decide) (by decide)) (g := (mkF m 15 #[.val (.int p0), .val (.int p1), .val (.int (3 : Int32)), .val (.int (2 : Int32)), .unset, .unset, .unset, .unset] [(.int (3 : Int32))])) rfl (by rw [hml]; rfl) (argsL := [(.int (3 : Int32))]) (rest := []) (lenOf pd_0 rfl) rfl (by show 2 * 0 + _ ≤ _; exact Nat.le_of_eq rfl) (hb hby at_15) (fun _ _ => ⟨rfl, e0, (by decide : 0 + 0 ≤ _), (by decide : 0 + 0 ≤ _)⟩)
  dsimp only [Pt.U, Pt.locs, Pt.cells, Pt.slots] at X1 l1 y1 z1 st1 hQ1
  subst l1 y1 z1
  obtain ⟨rfl, N1q, e1⟩ := hQ1
  have N1 := Fr.app N0 N1q
  obtain ⟨_, _, ⟨T2, L2, k2, n2⟩, -, X2, ⟨Lc2, hQ2, l2, y2, z2⟩, st2⟩ := Jvm.LawKit.callS X1 hx (y := (⟨"com/example/schedulock/schedulock/schedule/OperationKindConflictsWithPinLaw", "kind", "(I)Lcom/example/schedulock/schedulock/schedule/OperationKind;"⟩ : MethodName)) hown (mvT hZ (hw _ (List.mem_of_getElem? (i := 1) rfl))) (mvT hZ (hw _ (List.mem_of_getElem? (i := 2) rfl))) (mvT hZ (hw _ (List.mem_of_getElem? (i := 3) rfl))) (mvT hZ (hw _ (List.mem_of_getElem? (i := 4) rfl))) (by decide) (backOf (W := 0) (rm1_2 l Z a0 hw [] p0 p1 a_READ a_COMMIT a_ABORT a_WRITE a_INCREMENT h0 n0 (Nat.le_trans Z0 (Nat.le_refl _)) FF) hZ (hw _ (List.mem_of_getElem? (i := 4) rfl)) (hw _ (List.mem_of_getElem? (i := 3) rfl)) (by decide) (by decide)) (g := (mkF m 21 #[.val (.int p0), .val (.int p1), .val (.int (3 : Int32)), .val (.int (2 : Int32)), .val (.ref a_COMMIT), .unset, .unset, .unset] [(.int (2 : Int32))])) rfl (by rw [hml]; rfl) (argsL := [(.int (2 : Int32))]) (rest := []) (lenOf pd_0 rfl) rfl (by show 2 * 0 + _ ≤ _; exact Nat.le_of_eq rfl) (hb hby at_21) (fun _ _ => ⟨rfl, e1, (by decide : 0 + 0 ≤ _), (by decide : 0 + 0 ≤ _)⟩)
  dsimp only [Pt.U, Pt.locs, Pt.cells, Pt.slots] at X2 l2 y2 z2 st2 hQ2
  subst l2 y2 z2
  obtain ⟨rfl, N2q, e2⟩ := hQ2
  have N2 := Fr.app N1 N2q
  obtain ⟨T3, h3, b3, k3, lc3, X3, e3, s_b3, z3, N3, FF3, V3, st3⟩ := seg_0 (l := l) (Z := Z) hw a_READ a_COMMIT a_ABORT a_WRITE a_INCREMENT p0 p1 (3 : Int32) (2 : Int32) a_COMMIT a_INCREMENT X2 hx hZ hby hml hown e2 Z0 N2 FF
  obtain ⟨c4, r4, -, S4, -, H4, -⟩ := V3
  have i4 : ¬ ((17 : Int32) < 0 ∨ c4.slots.size ≤ ((17 : Int32)).toNatClampNeg) := inb_of S4 ⟨by decide, by decide⟩
  have y4 : c4.slots[((17 : Int32)).toNatClampNeg]? = some (.int (0 : Int32)) := H4 17 (by rw [S4]; decide)
  obtain ⟨cq5, kq5, q5a, q5b, q5c⟩ := isOf hZ e3 (fx_E_COMMIT FF3)
  obtain ⟨_, _, ⟨T5, L5, k5, n5⟩, -, X5, ⟨Lc5, hQ5, l5, y5, z5⟩, st5⟩ := X3.virtualBack hx (y := (⟨"com/example/schedulock/schedulock/schedule/OperationKind", "conflictsWith", "(Lcom/example/schedulock/schedulock/schedule/OperationKind;)Z"⟩ : MethodName)) (z := (⟨"com/example/schedulock/schedulock/schedule/OperationKind", "conflictsWith", "(Lcom/example/schedulock/schedulock/schedule/OperationKind;)Z"⟩ : MethodName)) hown (mvT hZ (hw _ (List.mem_of_getElem? (i := 11) rfl))) (mvT hZ (hw _ (List.mem_of_getElem? (i := 12) rfl))) (notFace_of_selects (args := #[]) (mvT hZ (hw _ (List.mem_of_getElem? (i := 14) rfl)))) (mvT hZ (hw _ (List.mem_of_getElem? (i := 14) rfl))) (mvT hZ (hw _ (List.mem_of_getElem? (i := 13) rfl))) (by decide) (backOf (W := 0) (rm2_17 l Z a0 hw [] p0 p1 a_READ a_COMMIT a_ABORT a_WRITE a_INCREMENT h3 n0 (Nat.le_trans Z0 z3) FF3) hZ (hw _ (List.mem_of_getElem? (i := 15) rfl)) (hw _ (List.mem_of_getElem? (i := 6) rfl)) (by decide) (by decide)) q5a q5c (g := (mkF m 165 #[.val (.int p0), .val (.int p1), .val (.int (3 : Int32)), .val (.int (2 : Int32)), .val (.ref a_COMMIT), .val (.ref a_INCREMENT), .val (.ref b3), .val (.int (0 : Int32))] [(.ref a_INCREMENT), (.ref a_COMMIT)])) rfl (by rw [hml]; rfl) (Steps.refl _) (argsL := [(.ref a_INCREMENT)]) (rest := []) (lenOf pd_1 rfl) rfl (by show 2 * 0 + _ ≤ _; exact Nat.le_of_eq rfl) (hb hby at_165) (fun _ _ => ⟨rfl, e3, (by decide : 1 + 0 ≤ _), (by decide : 25 + 0 ≤ _)⟩)
  dsimp only [Pt.U, Pt.locs, Pt.cells, Pt.slots] at X5 l5 y5 z5 st5 hQ5
  subst l5 y5 z5
  obtain ⟨rfl, N5q, e5⟩ := hQ5
  have N5 := Fr.app N3 N5q
  obtain ⟨fs, hr, hrun, hended, hW, hsame⟩ := X5.leave (v := some (.int (1 : Int32))) (fun h => by rw [Bd.returns] at h; cases h)
  refine ⟨_, _, pre0 _ ?_, hrun, hended, _, _, rfl, ?_, ⟨_, rfl⟩, hW, hsame.mono (by decide) (by decide)⟩
  · show Steps p.tables e below (s₁.setTop (mkF m 0 #[.val (.int p0), .val (.int p1), .unset, .unset, .unset, .unset, .unset, .unset] [])) _
    refine XS.iloadN X0.here hx rfl (hb hby at_0) rfl ?_
    show Steps p.tables e below (s₁.setTop (mkF m 1 #[.val (.int p0), .val (.int p1), .unset, .unset, .unset, .unset, .unset, .unset] [(.int p0)])) _
    refine X0.ldcInt hx hown (mvT hZ (hw _ (List.mem_of_getElem? (i := 0) rfl))) (g := (mkF m 1 #[.val (.int p0), .val (.int p1), .unset, .unset, .unset, .unset, .unset, .unset] [(.int p0)])) rfl (hb hby at_1) _ ?_
    show Steps p.tables e below (s₁.setTop (mkF m 3 #[.val (.int p0), .val (.int p1), .unset, .unset, .unset, .unset, .unset, .unset] [(.int (2147483647 : Int32)), (.int p0)])) _
    refine XS.iand X0.here hx rfl (hb hby at_3) rfl ?_
    show Steps p.tables e below (s₁.setTop (mkF m 4 #[.val (.int p0), .val (.int p1), .unset, .unset, .unset, .unset, .unset, .unset] [(.int (p0 &&& (2147483647 : Int32)))])) _
    refine XS.iconst X0.here hx rfl (hb hby at_4) ?_
    show Steps p.tables e below (s₁.setTop (mkF m 5 #[.val (.int p0), .val (.int p1), .unset, .unset, .unset, .unset, .unset, .unset] [(.int (5 : Int32)), (.int (p0 &&& (2147483647 : Int32)))])) _
    refine iremM X0 hx rfl (hb hby at_5) rfl (by decide) ?_
    show Steps p.tables e below (s₁.setTop (mkF m 6 #[.val (.int p0), .val (.int p1), .unset, .unset, .unset, .unset, .unset, .unset] [(.int ((p0 &&& (2147483647 : Int32)) % (5 : Int32)))])) _
    rw [hk0]
    show Steps p.tables e below (s₁.setTop (mkF m 6 #[.val (.int p0), .val (.int p1), .unset, .unset, .unset, .unset, .unset, .unset] [(.int (3 : Int32))])) _
    refine XS.istoreN X0.here hx rfl (hb hby at_6) rfl (l' := #[.val (.int p0), .val (.int p1), .val (.int (3 : Int32)), .unset, .unset, .unset, .unset, .unset]) rfl ?_
    show Steps p.tables e below (s₁.setTop (mkF m 7 #[.val (.int p0), .val (.int p1), .val (.int (3 : Int32)), .unset, .unset, .unset, .unset, .unset] [])) _
    refine XS.iloadN X0.here hx rfl (hb hby at_7) rfl ?_
    show Steps p.tables e below (s₁.setTop (mkF m 8 #[.val (.int p0), .val (.int p1), .val (.int (3 : Int32)), .unset, .unset, .unset, .unset, .unset] [(.int p1)])) _
    refine X0.ldcInt hx hown (mvT hZ (hw _ (List.mem_of_getElem? (i := 0) rfl))) (g := (mkF m 8 #[.val (.int p0), .val (.int p1), .val (.int (3 : Int32)), .unset, .unset, .unset, .unset, .unset] [(.int p1)])) rfl (hb hby at_8) _ ?_
    show Steps p.tables e below (s₁.setTop (mkF m 10 #[.val (.int p0), .val (.int p1), .val (.int (3 : Int32)), .unset, .unset, .unset, .unset, .unset] [(.int (2147483647 : Int32)), (.int p1)])) _
    refine XS.iand X0.here hx rfl (hb hby at_10) rfl ?_
    show Steps p.tables e below (s₁.setTop (mkF m 11 #[.val (.int p0), .val (.int p1), .val (.int (3 : Int32)), .unset, .unset, .unset, .unset, .unset] [(.int (p1 &&& (2147483647 : Int32)))])) _
    refine XS.iconst X0.here hx rfl (hb hby at_11) ?_
    show Steps p.tables e below (s₁.setTop (mkF m 12 #[.val (.int p0), .val (.int p1), .val (.int (3 : Int32)), .unset, .unset, .unset, .unset, .unset] [(.int (5 : Int32)), (.int (p1 &&& (2147483647 : Int32)))])) _
    refine iremM X0 hx rfl (hb hby at_12) rfl (by decide) ?_
    show Steps p.tables e below (s₁.setTop (mkF m 13 #[.val (.int p0), .val (.int p1), .val (.int (3 : Int32)), .unset, .unset, .unset, .unset, .unset] [(.int ((p1 &&& (2147483647 : Int32)) % (5 : Int32)))])) _
    rw [hk1]
    show Steps p.tables e below (s₁.setTop (mkF m 13 #[.val (.int p0), .val (.int p1), .val (.int (3 : Int32)), .unset, .unset, .unset, .unset, .unset] [(.int (2 : Int32))])) _
    refine XS.istoreN X0.here hx rfl (hb hby at_13) rfl (l' := #[.val (.int p0), .val (.int p1), .val (.int (3 : Int32)), .val (.int (2 : Int32)), .unset, .unset, .unset, .unset]) rfl ?_
    show Steps p.tables e below (s₁.setTop (mkF m 14 #[.val (.int p0), .val (.int p1), .val (.int (3 : Int32)), .val (.int (2 : Int32)), .unset, .unset, .unset, .unset] [])) _
    refine XS.iloadN X0.here hx rfl (hb hby at_14) rfl ?_
    show Steps p.tables e below (s₁.setTop (mkF m 15 #[.val (.int p0), .val (.int p1), .val (.int (3 : Int32)), .val (.int (2 : Int32)), .unset, .unset, .unset, .unset] [(.int (3 : Int32))])) _
    refine st1 _ ?_
    show Steps p.tables e below (T1.setTop (mkF m 18 #[.val (.int p0), .val (.int p1), .val (.int (3 : Int32)), .val (.int (2 : Int32)), .unset, .unset, .unset, .unset] [(.ref a_COMMIT)])) _
    refine XS.astore X1.here hx rfl (hb hby at_18) rfl rfl (l' := #[.val (.int p0), .val (.int p1), .val (.int (3 : Int32)), .val (.int (2 : Int32)), .val (.ref a_COMMIT), .unset, .unset, .unset]) rfl ?_
    show Steps p.tables e below (T1.setTop (mkF m 20 #[.val (.int p0), .val (.int p1), .val (.int (3 : Int32)), .val (.int (2 : Int32)), .val (.ref a_COMMIT), .unset, .unset, .unset] [])) _
    refine XS.iloadN X1.here hx rfl (hb hby at_20) rfl ?_
    show Steps p.tables e below (T1.setTop (mkF m 21 #[.val (.int p0), .val (.int p1), .val (.int (3 : Int32)), .val (.int (2 : Int32)), .val (.ref a_COMMIT), .unset, .unset, .unset] [(.int (2 : Int32))])) _
    refine st2 _ ?_
    show Steps p.tables e below (T2.setTop (mkF m 24 #[.val (.int p0), .val (.int p1), .val (.int (3 : Int32)), .val (.int (2 : Int32)), .val (.ref a_COMMIT), .unset, .unset, .unset] [(.ref a_INCREMENT)])) _
    refine XS.astore X2.here hx rfl (hb hby at_24) rfl rfl (l' := #[.val (.int p0), .val (.int p1), .val (.int (3 : Int32)), .val (.int (2 : Int32)), .val (.ref a_COMMIT), .val (.ref a_INCREMENT), .unset, .unset]) rfl ?_
    show Steps p.tables e below (T2.setTop (mkF m 26 #[.val (.int p0), .val (.int p1), .val (.int (3 : Int32)), .val (.int (2 : Int32)), .val (.ref a_COMMIT), .val (.ref a_INCREMENT), .unset, .unset] [])) _
    refine st3 _ ?_
    show Steps p.tables e below (T3.setTop (mkF m 151 #[.val (.int p0), .val (.int p1), .val (.int (3 : Int32)), .val (.int (2 : Int32)), .val (.ref a_COMMIT), .val (.ref a_INCREMENT), .val (.ref b3), .unset] [])) _
    refine XS.aload X3.here hx rfl (hb hby at_151) rfl rfl ?_
    show Steps p.tables e below (T3.setTop (mkF m 153 #[.val (.int p0), .val (.int p1), .val (.int (3 : Int32)), .val (.int (2 : Int32)), .val (.ref a_COMMIT), .val (.ref a_INCREMENT), .val (.ref b3), .unset] [(.ref b3)])) _
    refine XS.iloadN X3.here hx rfl (hb hby at_153) rfl ?_
    show Steps p.tables e below (T3.setTop (mkF m 154 #[.val (.int p0), .val (.int p1), .val (.int (3 : Int32)), .val (.int (2 : Int32)), .val (.ref a_COMMIT), .val (.ref a_INCREMENT), .val (.ref b3), .unset] [(.int (3 : Int32)), (.ref b3)])) _
    refine XS.iconst X3.here hx rfl (hb hby at_154) ?_
    show Steps p.tables e below (T3.setTop (mkF m 155 #[.val (.int p0), .val (.int p1), .val (.int (3 : Int32)), .val (.int (2 : Int32)), .val (.ref a_COMMIT), .val (.ref a_INCREMENT), .val (.ref b3), .unset] [(.int (5 : Int32)), (.int (3 : Int32)), (.ref b3)])) _
    refine XS.imul X3.here hx rfl (hb hby at_155) rfl ?_
    show Steps p.tables e below (T3.setTop (mkF m 156 #[.val (.int p0), .val (.int p1), .val (.int (3 : Int32)), .val (.int (2 : Int32)), .val (.ref a_COMMIT), .val (.ref a_INCREMENT), .val (.ref b3), .unset] [(.int ((3 : Int32) * (5 : Int32))), (.ref b3)])) _
    rw [(by decide : ((3 : Int32) * (5 : Int32)) = (15 : Int32))]
    show Steps p.tables e below (T3.setTop (mkF m 156 #[.val (.int p0), .val (.int p1), .val (.int (3 : Int32)), .val (.int (2 : Int32)), .val (.ref a_COMMIT), .val (.ref a_INCREMENT), .val (.ref b3), .unset] [(.int (15 : Int32)), (.ref b3)])) _
    refine XS.iloadN X3.here hx rfl (hb hby at_156) rfl ?_
    show Steps p.tables e below (T3.setTop (mkF m 157 #[.val (.int p0), .val (.int p1), .val (.int (3 : Int32)), .val (.int (2 : Int32)), .val (.ref a_COMMIT), .val (.ref a_INCREMENT), .val (.ref b3), .unset] [(.int (2 : Int32)), (.int (15 : Int32)), (.ref b3)])) _
    refine XS.iadd X3.here hx rfl (hb hby at_157) rfl ?_
    show Steps p.tables e below (T3.setTop (mkF m 158 #[.val (.int p0), .val (.int p1), .val (.int (3 : Int32)), .val (.int (2 : Int32)), .val (.ref a_COMMIT), .val (.ref a_INCREMENT), .val (.ref b3), .unset] [(.int ((15 : Int32) + (2 : Int32))), (.ref b3)])) _
    rw [(by decide : ((15 : Int32) + (2 : Int32)) = (17 : Int32))]
    show Steps p.tables e below (T3.setTop (mkF m 158 #[.val (.int p0), .val (.int p1), .val (.int (3 : Int32)), .val (.int (2 : Int32)), .val (.ref a_COMMIT), .val (.ref a_INCREMENT), .val (.ref b3), .unset] [(.int (17 : Int32)), (.ref b3)])) _
    refine X3.baloadBooleans hx (j := (17 : Int32)) (v := (.int (0 : Int32))) (by rw [e3]; exact r4.1) (State.isArrayOf_alike hZ.alike r4.2.1) r4.2.2 i4 y4 (g := (mkF m 158 #[.val (.int p0), .val (.int p1), .val (.int (3 : Int32)), .val (.int (2 : Int32)), .val (.ref a_COMMIT), .val (.ref a_INCREMENT), .val (.ref b3), .unset] [(.int (17 : Int32)), (.ref b3)])) rfl rfl (hb hby at_158) _ ?_
    show Steps p.tables e below (T3.setTop (mkF m 159 #[.val (.int p0), .val (.int p1), .val (.int (3 : Int32)), .val (.int (2 : Int32)), .val (.ref a_COMMIT), .val (.ref a_INCREMENT), .val (.ref b3), .unset] [(.int (0 : Int32))])) _
    refine XS.istore X3.here hx rfl (hb hby at_159) rfl (l' := #[.val (.int p0), .val (.int p1), .val (.int (3 : Int32)), .val (.int (2 : Int32)), .val (.ref a_COMMIT), .val (.ref a_INCREMENT), .val (.ref b3), .val (.int (0 : Int32))]) rfl ?_
    show Steps p.tables e below (T3.setTop (mkF m 161 #[.val (.int p0), .val (.int p1), .val (.int (3 : Int32)), .val (.int (2 : Int32)), .val (.ref a_COMMIT), .val (.ref a_INCREMENT), .val (.ref b3), .val (.int (0 : Int32))] [])) _
    refine XS.aload X3.here hx rfl (hb hby at_161) rfl rfl ?_
    show Steps p.tables e below (T3.setTop (mkF m 163 #[.val (.int p0), .val (.int p1), .val (.int (3 : Int32)), .val (.int (2 : Int32)), .val (.ref a_COMMIT), .val (.ref a_INCREMENT), .val (.ref b3), .val (.int (0 : Int32))] [(.ref a_COMMIT)])) _
    refine XS.aload X3.here hx rfl (hb hby at_163) rfl rfl ?_
    show Steps p.tables e below (T3.setTop (mkF m 165 #[.val (.int p0), .val (.int p1), .val (.int (3 : Int32)), .val (.int (2 : Int32)), .val (.ref a_COMMIT), .val (.ref a_INCREMENT), .val (.ref b3), .val (.int (0 : Int32))] [(.ref a_INCREMENT), (.ref a_COMMIT)])) _
    refine st5.trans ?_
    show Steps p.tables e below (T5.setTop (mkF m 168 #[.val (.int p0), .val (.int p1), .val (.int (3 : Int32)), .val (.int (2 : Int32)), .val (.ref a_COMMIT), .val (.ref a_INCREMENT), .val (.ref b3), .val (.int (0 : Int32))] [(.int (0 : Int32))])) _
    refine XS.iload X5.here hx rfl (hb hby at_168) rfl ?_
    show Steps p.tables e below (T5.setTop (mkF m 170 #[.val (.int p0), .val (.int p1), .val (.int (3 : Int32)), .val (.int (2 : Int32)), .val (.ref a_COMMIT), .val (.ref a_INCREMENT), .val (.ref b3), .val (.int (0 : Int32))] [(.int (0 : Int32)), (.int (0 : Int32))])) _
    refine XS.icmpNo X5.here hx rfl (hb hby at_170) rfl (by decide) ?_
    show Steps p.tables e below (T5.setTop (mkF m 173 #[.val (.int p0), .val (.int p1), .val (.int (3 : Int32)), .val (.int (2 : Int32)), .val (.ref a_COMMIT), .val (.ref a_INCREMENT), .val (.ref b3), .val (.int (0 : Int32))] [])) _
    refine XS.iconst X5.here hx rfl (hb hby at_173) ?_
    show Steps p.tables e below (T5.setTop (mkF m 174 #[.val (.int p0), .val (.int p1), .val (.int (3 : Int32)), .val (.int (2 : Int32)), .val (.ref a_COMMIT), .val (.ref a_INCREMENT), .val (.ref b3), .val (.int (0 : Int32))] [(.int (1 : Int32))])) _
    refine XS.goto X5.here hx rfl (pc0 := 174) (pc' := 178) rfl (hb hby at_174) (by decide) (by decide) ?_
    show Steps p.tables e below (T5.setTop (mkF m 178 #[.val (.int p0), .val (.int p1), .val (.int (3 : Int32)), .val (.int (2 : Int32)), .val (.ref a_COMMIT), .val (.ref a_INCREMENT), .val (.ref b3), .val (.int (0 : Int32))] [(.int (1 : Int32))])) _
    exact retN X5 hx (t := .boolean) Bd.returns (by simp) (hb hby at_178) hr
  · exact ⟨rfl, N5⟩
set_option maxRecDepth 65536 in
set_option maxHeartbeats 40000000 in
theorem rm2_18 (l : Launch) (Z : State) (a0 : Array Value) (hw : ∀ d ∈ tables_1, d.before a0 Z = true) (ws : List Jvm.Cond) (p0 p1 : Int32) (a_READ a_COMMIT a_ABORT a_WRITE a_INCREMENT : Addr) (h0 : Heap) (n0 : Nat) (Z0 : n0 ≤ h0.size) (FF : Facts Z h0 a_READ a_COMMIT a_ABORT a_WRITE a_INCREMENT) :
    MetFree l (⟨"com/example/schedulock/schedulock/schedule/OperationKind", "conflictsWith", "(Lcom/example/schedulock/schedulock/schedule/OperationKind;)Z"⟩ : MethodName) (head1 (Jvm.Cond.code (⟨"com/example/schedulock/schedulock/schedule/OperationKind", "conflictsWith", "(Lcom/example/schedulock/schedulock/schedule/OperationKind;)Z"⟩ : MethodName) prog_31_method_5_code 2 (some .boolean) :: ws) ({ frames := 0, cells := 0, slots := 0, locals := 0 } : Room)) (fun a U => a = #[(.ref a_COMMIT), (.ref a_COMMIT)] ∧ Z.Warmed39 U.vm ∧ U.heap = h0) (fun _ _ _ _ _ => True) (fun _ U o U' => ∃ v L, o = .returned v ∧ own_Q (.int (0 : Int32)) h0 n0 v U'.heap L ∧ FrameEnd U o U' L ({ frames := 0, cells := 0, slots := 0, locals := 0 } : Room).cells ({ frames := 0, cells := 0, slots := 0, locals := 0 } : Room).slots) := by
  refine MetFree.of_bodySF (plainFor_of_name pn_2) hisR ?_
  intro p e s m args below meth c s₁ Bd hml0 hP hK
  obtain ⟨rfl, hZ, hh⟩ := hP
  have hx := Bd.exec
  have hby := Bd.bytes
  have hml : c.maxLocals = 2 := hml0
  have hown : s.vm.findClass "com/example/schedulock/schedulock/schedule/OperationKind" = some m.cls := findClass_of_methodNamed Bd.named
  have X0 : Stand p l e ({ frames := 0, cells := 0, slots := 0, locals := 0 } : Room) s m #[(.ref a_COMMIT), (.ref a_COMMIT)] below meth c s₁ [] 0 0 := Stand.of_body Bd
  have e0 : s₁.heap = h0 := by rw [← hh, Bd.state]; rfl
  have N0 := Fr.nil n0
  have pre0 : ∀ t, Steps p.tables e below (s₁.setTop (mkF m 0 #[.val (.ref a_COMMIT), .val (.ref a_COMMIT)] [])) t → Steps p.tables e below (s₁.setTop (entryFrame m #[(.ref a_COMMIT), (.ref a_COMMIT)] 2)) t := fun t k => castTop (ef_2 m a_COMMIT a_COMMIT) k
  obtain ⟨T1, X1, e1, st1⟩ := getF X0 hx hZ hown (host := "") (Or.inl (hw _ (List.mem_of_getElem? (i := 16) rfl))) Via.refl e0 (fx_F_COMMIT_takesItem FF) (g := (mkF m 1 #[.val (.ref a_COMMIT), .val (.ref a_COMMIT)] [(.ref a_COMMIT)])) rfl rfl (hb hby d2_1)
  obtain ⟨fs, hr, hrun, hended, hW, hsame⟩ := X1.leave (v := some (.int (0 : Int32))) (fun h => by rw [Bd.returns] at h; cases h)
  refine ⟨_, _, pre0 _ ?_, hrun, hended, _, _, rfl, ?_, ⟨_, rfl⟩, hW, hsame.mono (by decide) (by decide)⟩
  · show Steps p.tables e below (s₁.setTop (mkF m 0 #[.val (.ref a_COMMIT), .val (.ref a_COMMIT)] [])) _
    refine XS.aloadN X0.here hx rfl (hb hby d2_0) rfl rfl ?_
    show Steps p.tables e below (s₁.setTop (mkF m 1 #[.val (.ref a_COMMIT), .val (.ref a_COMMIT)] [(.ref a_COMMIT)])) _
    refine st1 _ ?_
    show Steps p.tables e below (T1.setTop (mkF m 4 #[.val (.ref a_COMMIT), .val (.ref a_COMMIT)] [(.int (0 : Int32))])) _
    refine XS.ifYes X1.here hx rfl (pc0 := 4) (pc' := 30) rfl (hb hby d2_4) rfl (by decide) (by decide) (by decide) ?_
    show Steps p.tables e below (T1.setTop (mkF m 30 #[.val (.ref a_COMMIT), .val (.ref a_COMMIT)] [])) _
    refine XS.iconst X1.here hx rfl (hb hby d2_30) ?_
    show Steps p.tables e below (T1.setTop (mkF m 31 #[.val (.ref a_COMMIT), .val (.ref a_COMMIT)] [(.int (0 : Int32))])) _
    exact retN X1 hx (t := .boolean) Bd.returns (by simp) (hb hby d2_31) hr
  · show own_Q _ _ _ _ T1.heap _
    exact ⟨rfl, N0, e1⟩
set_option maxRecDepth 65536 in
set_option maxHeartbeats 40000000 in
theorem rm0_18 (l : Launch) (Z : State) (a0 : Array Value) (hw : ∀ d ∈ tables_1, d.before a0 Z = true) (ws : List Jvm.Cond) (p0 p1 : Int32) (a_READ a_COMMIT a_ABORT a_WRITE a_INCREMENT : Addr) (h0 : Heap) (n0 : Nat) (Z0 : n0 ≤ h0.size) (FF : Facts Z h0 a_READ a_COMMIT a_ABORT a_WRITE a_INCREMENT) (hk0 : ((p0 &&& (2147483647 : Int32)) % (5 : Int32)) = (3 : Int32)) (hk1 : ((p1 &&& (2147483647 : Int32)) % (5 : Int32)) = (3 : Int32)) :
    MetFree l x (head1 (Jvm.Cond.code x code maxLocals ret :: ws) room_1) (fun a U => a = #[(.int p0), (.int p1)] ∧ Z.Warmed39 U.vm ∧ U.heap = h0) (fun _ _ _ _ _ => True) (fun _ U o U' => ∃ v L, o = .returned v ∧ (v = some (.int (1 : Int32)) ∧ Fr n0 L) ∧ FrameEnd U o U' L room_1.cells room_1.slots) := by
  refine MetFree.of_bodySF (plainFor_of_name pn_0) hisR ?_
  intro p e s m args below meth c s₁ Bd hml0 hP hK
  obtain ⟨rfl, hZ, hh⟩ := hP
  have hx := Bd.exec
  have hby := Bd.bytes
  have hml : c.maxLocals = 8 := hml0
  have hown : s.vm.findClass "com/example/schedulock/schedulock/schedule/OperationKindConflictsWithPinLaw" = some m.cls := findClass_of_methodNamed Bd.named
  have X0 : Stand p l e room_1 s m #[(.int p0), (.int p1)] below meth c s₁ [] 0 0 := Stand.of_body Bd
  have e0 : s₁.heap = h0 := by rw [← hh, Bd.state]; rfl
  have N0 := Fr.nil n0
  have pre0 : ∀ t, Steps p.tables e below (s₁.setTop (mkF m 0 #[.val (.int p0), .val (.int p1), .unset, .unset, .unset, .unset, .unset, .unset] [])) t → Steps p.tables e below (s₁.setTop (entryFrame m #[(.int p0), (.int p1)] maxLocals)) t := fun t k => castTop (ef_0 m p0 p1) k
  obtain ⟨_, _, ⟨T1, L1, k1, n1⟩, -, X1, ⟨Lc1, hQ1, l1, y1, z1⟩, st1⟩ := Jvm.LawKit.callS X0 hx (y := (⟨"com/example/schedulock/schedulock/schedule/OperationKindConflictsWithPinLaw", "kind", "(I)Lcom/example/schedulock/schedulock/schedule/OperationKind;"⟩ : MethodName)) hown (mvT hZ (hw _ (List.mem_of_getElem? (i := 1) rfl))) (mvT hZ (hw _ (List.mem_of_getElem? (i := 2) rfl))) (mvT hZ (hw _ (List.mem_of_getElem? (i := 3) rfl))) (mvT hZ (hw _ (List.mem_of_getElem? (i := 4) rfl))) (by decide) (backOf (W := 0) (rm1_3 l Z a0 hw [] p0 p1 a_READ a_COMMIT a_ABORT a_WRITE a_INCREMENT h0 n0 (Nat.le_trans Z0 (Nat.le_refl _)) FF) hZ (hw _ (List.mem_of_getElem? (i := 4) rfl)) (hw _ (List.mem_of_getElem? (i := 3) rfl)) (by decide) (by decide)) (g := (mkF m 15 #[.val (.int p0), .val (.int p1), .val (.int (3 : Int32)), .val (.int (3 : Int32)), .unset, .unset, .unset, .unset] [(.int (3 : Int32))])) rfl (by rw [hml]; rfl) (argsL := [(.int (3 : Int32))]) (rest := []) (lenOf pd_0 rfl) rfl (by show 2 * 0 + _ ≤ _; exact Nat.le_of_eq rfl) (hb hby at_15) (fun _ _ => ⟨rfl, e0, (by decide : 0 + 0 ≤ _), (by decide : 0 + 0 ≤ _)⟩)
  dsimp only [Pt.U, Pt.locs, Pt.cells, Pt.slots] at X1 l1 y1 z1 st1 hQ1
  subst l1 y1 z1
  obtain ⟨rfl, N1q, e1⟩ := hQ1
  have N1 := Fr.app N0 N1q
  obtain ⟨_, _, ⟨T2, L2, k2, n2⟩, -, X2, ⟨Lc2, hQ2, l2, y2, z2⟩, st2⟩ := Jvm.LawKit.callS X1 hx (y := (⟨"com/example/schedulock/schedulock/schedule/OperationKindConflictsWithPinLaw", "kind", "(I)Lcom/example/schedulock/schedulock/schedule/OperationKind;"⟩ : MethodName)) hown (mvT hZ (hw _ (List.mem_of_getElem? (i := 1) rfl))) (mvT hZ (hw _ (List.mem_of_getElem? (i := 2) rfl))) (mvT hZ (hw _ (List.mem_of_getElem? (i := 3) rfl))) (mvT hZ (hw _ (List.mem_of_getElem? (i := 4) rfl))) (by decide) (backOf (W := 0) (rm1_3 l Z a0 hw [] p0 p1 a_READ a_COMMIT a_ABORT a_WRITE a_INCREMENT h0 n0 (Nat.le_trans Z0 (Nat.le_refl _)) FF) hZ (hw _ (List.mem_of_getElem? (i := 4) rfl)) (hw _ (List.mem_of_getElem? (i := 3) rfl)) (by decide) (by decide)) (g := (mkF m 21 #[.val (.int p0), .val (.int p1), .val (.int (3 : Int32)), .val (.int (3 : Int32)), .val (.ref a_COMMIT), .unset, .unset, .unset] [(.int (3 : Int32))])) rfl (by rw [hml]; rfl) (argsL := [(.int (3 : Int32))]) (rest := []) (lenOf pd_0 rfl) rfl (by show 2 * 0 + _ ≤ _; exact Nat.le_of_eq rfl) (hb hby at_21) (fun _ _ => ⟨rfl, e1, (by decide : 0 + 0 ≤ _), (by decide : 0 + 0 ≤ _)⟩)
  dsimp only [Pt.U, Pt.locs, Pt.cells, Pt.slots] at X2 l2 y2 z2 st2 hQ2
  subst l2 y2 z2
  obtain ⟨rfl, N2q, e2⟩ := hQ2
  have N2 := Fr.app N1 N2q
  obtain ⟨T3, h3, b3, k3, lc3, X3, e3, s_b3, z3, N3, FF3, V3, st3⟩ := seg_0 (l := l) (Z := Z) hw a_READ a_COMMIT a_ABORT a_WRITE a_INCREMENT p0 p1 (3 : Int32) (3 : Int32) a_COMMIT a_COMMIT X2 hx hZ hby hml hown e2 Z0 N2 FF
  obtain ⟨c4, r4, -, S4, -, H4, -⟩ := V3
  have i4 : ¬ ((18 : Int32) < 0 ∨ c4.slots.size ≤ ((18 : Int32)).toNatClampNeg) := inb_of S4 ⟨by decide, by decide⟩
  have y4 : c4.slots[((18 : Int32)).toNatClampNeg]? = some (.int (0 : Int32)) := H4 18 (by rw [S4]; decide)
  obtain ⟨cq5, kq5, q5a, q5b, q5c⟩ := isOf hZ e3 (fx_E_COMMIT FF3)
  obtain ⟨_, _, ⟨T5, L5, k5, n5⟩, -, X5, ⟨Lc5, hQ5, l5, y5, z5⟩, st5⟩ := X3.virtualBack hx (y := (⟨"com/example/schedulock/schedulock/schedule/OperationKind", "conflictsWith", "(Lcom/example/schedulock/schedulock/schedule/OperationKind;)Z"⟩ : MethodName)) (z := (⟨"com/example/schedulock/schedulock/schedule/OperationKind", "conflictsWith", "(Lcom/example/schedulock/schedulock/schedule/OperationKind;)Z"⟩ : MethodName)) hown (mvT hZ (hw _ (List.mem_of_getElem? (i := 11) rfl))) (mvT hZ (hw _ (List.mem_of_getElem? (i := 12) rfl))) (notFace_of_selects (args := #[]) (mvT hZ (hw _ (List.mem_of_getElem? (i := 14) rfl)))) (mvT hZ (hw _ (List.mem_of_getElem? (i := 14) rfl))) (mvT hZ (hw _ (List.mem_of_getElem? (i := 13) rfl))) (by decide) (backOf (W := 0) (rm2_18 l Z a0 hw [] p0 p1 a_READ a_COMMIT a_ABORT a_WRITE a_INCREMENT h3 n0 (Nat.le_trans Z0 z3) FF3) hZ (hw _ (List.mem_of_getElem? (i := 15) rfl)) (hw _ (List.mem_of_getElem? (i := 6) rfl)) (by decide) (by decide)) q5a q5c (g := (mkF m 165 #[.val (.int p0), .val (.int p1), .val (.int (3 : Int32)), .val (.int (3 : Int32)), .val (.ref a_COMMIT), .val (.ref a_COMMIT), .val (.ref b3), .val (.int (0 : Int32))] [(.ref a_COMMIT), (.ref a_COMMIT)])) rfl (by rw [hml]; rfl) (Steps.refl _) (argsL := [(.ref a_COMMIT)]) (rest := []) (lenOf pd_1 rfl) rfl (by show 2 * 0 + _ ≤ _; exact Nat.le_of_eq rfl) (hb hby at_165) (fun _ _ => ⟨rfl, e3, (by decide : 1 + 0 ≤ _), (by decide : 25 + 0 ≤ _)⟩)
  dsimp only [Pt.U, Pt.locs, Pt.cells, Pt.slots] at X5 l5 y5 z5 st5 hQ5
  subst l5 y5 z5
  obtain ⟨rfl, N5q, e5⟩ := hQ5
  have N5 := Fr.app N3 N5q
  obtain ⟨fs, hr, hrun, hended, hW, hsame⟩ := X5.leave (v := some (.int (1 : Int32))) (fun h => by rw [Bd.returns] at h; cases h)
  refine ⟨_, _, pre0 _ ?_, hrun, hended, _, _, rfl, ?_, ⟨_, rfl⟩, hW, hsame.mono (by decide) (by decide)⟩
  · show Steps p.tables e below (s₁.setTop (mkF m 0 #[.val (.int p0), .val (.int p1), .unset, .unset, .unset, .unset, .unset, .unset] [])) _
    refine XS.iloadN X0.here hx rfl (hb hby at_0) rfl ?_
    show Steps p.tables e below (s₁.setTop (mkF m 1 #[.val (.int p0), .val (.int p1), .unset, .unset, .unset, .unset, .unset, .unset] [(.int p0)])) _
    refine X0.ldcInt hx hown (mvT hZ (hw _ (List.mem_of_getElem? (i := 0) rfl))) (g := (mkF m 1 #[.val (.int p0), .val (.int p1), .unset, .unset, .unset, .unset, .unset, .unset] [(.int p0)])) rfl (hb hby at_1) _ ?_
    show Steps p.tables e below (s₁.setTop (mkF m 3 #[.val (.int p0), .val (.int p1), .unset, .unset, .unset, .unset, .unset, .unset] [(.int (2147483647 : Int32)), (.int p0)])) _
    refine XS.iand X0.here hx rfl (hb hby at_3) rfl ?_
    show Steps p.tables e below (s₁.setTop (mkF m 4 #[.val (.int p0), .val (.int p1), .unset, .unset, .unset, .unset, .unset, .unset] [(.int (p0 &&& (2147483647 : Int32)))])) _
    refine XS.iconst X0.here hx rfl (hb hby at_4) ?_
    show Steps p.tables e below (s₁.setTop (mkF m 5 #[.val (.int p0), .val (.int p1), .unset, .unset, .unset, .unset, .unset, .unset] [(.int (5 : Int32)), (.int (p0 &&& (2147483647 : Int32)))])) _
    refine iremM X0 hx rfl (hb hby at_5) rfl (by decide) ?_
    show Steps p.tables e below (s₁.setTop (mkF m 6 #[.val (.int p0), .val (.int p1), .unset, .unset, .unset, .unset, .unset, .unset] [(.int ((p0 &&& (2147483647 : Int32)) % (5 : Int32)))])) _
    rw [hk0]
    show Steps p.tables e below (s₁.setTop (mkF m 6 #[.val (.int p0), .val (.int p1), .unset, .unset, .unset, .unset, .unset, .unset] [(.int (3 : Int32))])) _
    refine XS.istoreN X0.here hx rfl (hb hby at_6) rfl (l' := #[.val (.int p0), .val (.int p1), .val (.int (3 : Int32)), .unset, .unset, .unset, .unset, .unset]) rfl ?_
    show Steps p.tables e below (s₁.setTop (mkF m 7 #[.val (.int p0), .val (.int p1), .val (.int (3 : Int32)), .unset, .unset, .unset, .unset, .unset] [])) _
    refine XS.iloadN X0.here hx rfl (hb hby at_7) rfl ?_
    show Steps p.tables e below (s₁.setTop (mkF m 8 #[.val (.int p0), .val (.int p1), .val (.int (3 : Int32)), .unset, .unset, .unset, .unset, .unset] [(.int p1)])) _
    refine X0.ldcInt hx hown (mvT hZ (hw _ (List.mem_of_getElem? (i := 0) rfl))) (g := (mkF m 8 #[.val (.int p0), .val (.int p1), .val (.int (3 : Int32)), .unset, .unset, .unset, .unset, .unset] [(.int p1)])) rfl (hb hby at_8) _ ?_
    show Steps p.tables e below (s₁.setTop (mkF m 10 #[.val (.int p0), .val (.int p1), .val (.int (3 : Int32)), .unset, .unset, .unset, .unset, .unset] [(.int (2147483647 : Int32)), (.int p1)])) _
    refine XS.iand X0.here hx rfl (hb hby at_10) rfl ?_
    show Steps p.tables e below (s₁.setTop (mkF m 11 #[.val (.int p0), .val (.int p1), .val (.int (3 : Int32)), .unset, .unset, .unset, .unset, .unset] [(.int (p1 &&& (2147483647 : Int32)))])) _
    refine XS.iconst X0.here hx rfl (hb hby at_11) ?_
    show Steps p.tables e below (s₁.setTop (mkF m 12 #[.val (.int p0), .val (.int p1), .val (.int (3 : Int32)), .unset, .unset, .unset, .unset, .unset] [(.int (5 : Int32)), (.int (p1 &&& (2147483647 : Int32)))])) _
    refine iremM X0 hx rfl (hb hby at_12) rfl (by decide) ?_
    show Steps p.tables e below (s₁.setTop (mkF m 13 #[.val (.int p0), .val (.int p1), .val (.int (3 : Int32)), .unset, .unset, .unset, .unset, .unset] [(.int ((p1 &&& (2147483647 : Int32)) % (5 : Int32)))])) _
    rw [hk1]
    show Steps p.tables e below (s₁.setTop (mkF m 13 #[.val (.int p0), .val (.int p1), .val (.int (3 : Int32)), .unset, .unset, .unset, .unset, .unset] [(.int (3 : Int32))])) _
    refine XS.istoreN X0.here hx rfl (hb hby at_13) rfl (l' := #[.val (.int p0), .val (.int p1), .val (.int (3 : Int32)), .val (.int (3 : Int32)), .unset, .unset, .unset, .unset]) rfl ?_
    show Steps p.tables e below (s₁.setTop (mkF m 14 #[.val (.int p0), .val (.int p1), .val (.int (3 : Int32)), .val (.int (3 : Int32)), .unset, .unset, .unset, .unset] [])) _
    refine XS.iloadN X0.here hx rfl (hb hby at_14) rfl ?_
    show Steps p.tables e below (s₁.setTop (mkF m 15 #[.val (.int p0), .val (.int p1), .val (.int (3 : Int32)), .val (.int (3 : Int32)), .unset, .unset, .unset, .unset] [(.int (3 : Int32))])) _
    refine st1 _ ?_
    show Steps p.tables e below (T1.setTop (mkF m 18 #[.val (.int p0), .val (.int p1), .val (.int (3 : Int32)), .val (.int (3 : Int32)), .unset, .unset, .unset, .unset] [(.ref a_COMMIT)])) _
    refine XS.astore X1.here hx rfl (hb hby at_18) rfl rfl (l' := #[.val (.int p0), .val (.int p1), .val (.int (3 : Int32)), .val (.int (3 : Int32)), .val (.ref a_COMMIT), .unset, .unset, .unset]) rfl ?_
    show Steps p.tables e below (T1.setTop (mkF m 20 #[.val (.int p0), .val (.int p1), .val (.int (3 : Int32)), .val (.int (3 : Int32)), .val (.ref a_COMMIT), .unset, .unset, .unset] [])) _
    refine XS.iloadN X1.here hx rfl (hb hby at_20) rfl ?_
    show Steps p.tables e below (T1.setTop (mkF m 21 #[.val (.int p0), .val (.int p1), .val (.int (3 : Int32)), .val (.int (3 : Int32)), .val (.ref a_COMMIT), .unset, .unset, .unset] [(.int (3 : Int32))])) _
    refine st2 _ ?_
    show Steps p.tables e below (T2.setTop (mkF m 24 #[.val (.int p0), .val (.int p1), .val (.int (3 : Int32)), .val (.int (3 : Int32)), .val (.ref a_COMMIT), .unset, .unset, .unset] [(.ref a_COMMIT)])) _
    refine XS.astore X2.here hx rfl (hb hby at_24) rfl rfl (l' := #[.val (.int p0), .val (.int p1), .val (.int (3 : Int32)), .val (.int (3 : Int32)), .val (.ref a_COMMIT), .val (.ref a_COMMIT), .unset, .unset]) rfl ?_
    show Steps p.tables e below (T2.setTop (mkF m 26 #[.val (.int p0), .val (.int p1), .val (.int (3 : Int32)), .val (.int (3 : Int32)), .val (.ref a_COMMIT), .val (.ref a_COMMIT), .unset, .unset] [])) _
    refine st3 _ ?_
    show Steps p.tables e below (T3.setTop (mkF m 151 #[.val (.int p0), .val (.int p1), .val (.int (3 : Int32)), .val (.int (3 : Int32)), .val (.ref a_COMMIT), .val (.ref a_COMMIT), .val (.ref b3), .unset] [])) _
    refine XS.aload X3.here hx rfl (hb hby at_151) rfl rfl ?_
    show Steps p.tables e below (T3.setTop (mkF m 153 #[.val (.int p0), .val (.int p1), .val (.int (3 : Int32)), .val (.int (3 : Int32)), .val (.ref a_COMMIT), .val (.ref a_COMMIT), .val (.ref b3), .unset] [(.ref b3)])) _
    refine XS.iloadN X3.here hx rfl (hb hby at_153) rfl ?_
    show Steps p.tables e below (T3.setTop (mkF m 154 #[.val (.int p0), .val (.int p1), .val (.int (3 : Int32)), .val (.int (3 : Int32)), .val (.ref a_COMMIT), .val (.ref a_COMMIT), .val (.ref b3), .unset] [(.int (3 : Int32)), (.ref b3)])) _
    refine XS.iconst X3.here hx rfl (hb hby at_154) ?_
    show Steps p.tables e below (T3.setTop (mkF m 155 #[.val (.int p0), .val (.int p1), .val (.int (3 : Int32)), .val (.int (3 : Int32)), .val (.ref a_COMMIT), .val (.ref a_COMMIT), .val (.ref b3), .unset] [(.int (5 : Int32)), (.int (3 : Int32)), (.ref b3)])) _
    refine XS.imul X3.here hx rfl (hb hby at_155) rfl ?_
    show Steps p.tables e below (T3.setTop (mkF m 156 #[.val (.int p0), .val (.int p1), .val (.int (3 : Int32)), .val (.int (3 : Int32)), .val (.ref a_COMMIT), .val (.ref a_COMMIT), .val (.ref b3), .unset] [(.int ((3 : Int32) * (5 : Int32))), (.ref b3)])) _
    rw [(by decide : ((3 : Int32) * (5 : Int32)) = (15 : Int32))]
    show Steps p.tables e below (T3.setTop (mkF m 156 #[.val (.int p0), .val (.int p1), .val (.int (3 : Int32)), .val (.int (3 : Int32)), .val (.ref a_COMMIT), .val (.ref a_COMMIT), .val (.ref b3), .unset] [(.int (15 : Int32)), (.ref b3)])) _
    refine XS.iloadN X3.here hx rfl (hb hby at_156) rfl ?_
    show Steps p.tables e below (T3.setTop (mkF m 157 #[.val (.int p0), .val (.int p1), .val (.int (3 : Int32)), .val (.int (3 : Int32)), .val (.ref a_COMMIT), .val (.ref a_COMMIT), .val (.ref b3), .unset] [(.int (3 : Int32)), (.int (15 : Int32)), (.ref b3)])) _
    refine XS.iadd X3.here hx rfl (hb hby at_157) rfl ?_
    show Steps p.tables e below (T3.setTop (mkF m 158 #[.val (.int p0), .val (.int p1), .val (.int (3 : Int32)), .val (.int (3 : Int32)), .val (.ref a_COMMIT), .val (.ref a_COMMIT), .val (.ref b3), .unset] [(.int ((15 : Int32) + (3 : Int32))), (.ref b3)])) _
    rw [(by decide : ((15 : Int32) + (3 : Int32)) = (18 : Int32))]
    show Steps p.tables e below (T3.setTop (mkF m 158 #[.val (.int p0), .val (.int p1), .val (.int (3 : Int32)), .val (.int (3 : Int32)), .val (.ref a_COMMIT), .val (.ref a_COMMIT), .val (.ref b3), .unset] [(.int (18 : Int32)), (.ref b3)])) _
    refine X3.baloadBooleans hx (j := (18 : Int32)) (v := (.int (0 : Int32))) (by rw [e3]; exact r4.1) (State.isArrayOf_alike hZ.alike r4.2.1) r4.2.2 i4 y4 (g := (mkF m 158 #[.val (.int p0), .val (.int p1), .val (.int (3 : Int32)), .val (.int (3 : Int32)), .val (.ref a_COMMIT), .val (.ref a_COMMIT), .val (.ref b3), .unset] [(.int (18 : Int32)), (.ref b3)])) rfl rfl (hb hby at_158) _ ?_
    show Steps p.tables e below (T3.setTop (mkF m 159 #[.val (.int p0), .val (.int p1), .val (.int (3 : Int32)), .val (.int (3 : Int32)), .val (.ref a_COMMIT), .val (.ref a_COMMIT), .val (.ref b3), .unset] [(.int (0 : Int32))])) _
    refine XS.istore X3.here hx rfl (hb hby at_159) rfl (l' := #[.val (.int p0), .val (.int p1), .val (.int (3 : Int32)), .val (.int (3 : Int32)), .val (.ref a_COMMIT), .val (.ref a_COMMIT), .val (.ref b3), .val (.int (0 : Int32))]) rfl ?_
    show Steps p.tables e below (T3.setTop (mkF m 161 #[.val (.int p0), .val (.int p1), .val (.int (3 : Int32)), .val (.int (3 : Int32)), .val (.ref a_COMMIT), .val (.ref a_COMMIT), .val (.ref b3), .val (.int (0 : Int32))] [])) _
    refine XS.aload X3.here hx rfl (hb hby at_161) rfl rfl ?_
    show Steps p.tables e below (T3.setTop (mkF m 163 #[.val (.int p0), .val (.int p1), .val (.int (3 : Int32)), .val (.int (3 : Int32)), .val (.ref a_COMMIT), .val (.ref a_COMMIT), .val (.ref b3), .val (.int (0 : Int32))] [(.ref a_COMMIT)])) _
    refine XS.aload X3.here hx rfl (hb hby at_163) rfl rfl ?_
    show Steps p.tables e below (T3.setTop (mkF m 165 #[.val (.int p0), .val (.int p1), .val (.int (3 : Int32)), .val (.int (3 : Int32)), .val (.ref a_COMMIT), .val (.ref a_COMMIT), .val (.ref b3), .val (.int (0 : Int32))] [(.ref a_COMMIT), (.ref a_COMMIT)])) _
    refine st5.trans ?_
    show Steps p.tables e below (T5.setTop (mkF m 168 #[.val (.int p0), .val (.int p1), .val (.int (3 : Int32)), .val (.int (3 : Int32)), .val (.ref a_COMMIT), .val (.ref a_COMMIT), .val (.ref b3), .val (.int (0 : Int32))] [(.int (0 : Int32))])) _
    refine XS.iload X5.here hx rfl (hb hby at_168) rfl ?_
    show Steps p.tables e below (T5.setTop (mkF m 170 #[.val (.int p0), .val (.int p1), .val (.int (3 : Int32)), .val (.int (3 : Int32)), .val (.ref a_COMMIT), .val (.ref a_COMMIT), .val (.ref b3), .val (.int (0 : Int32))] [(.int (0 : Int32)), (.int (0 : Int32))])) _
    refine XS.icmpNo X5.here hx rfl (hb hby at_170) rfl (by decide) ?_
    show Steps p.tables e below (T5.setTop (mkF m 173 #[.val (.int p0), .val (.int p1), .val (.int (3 : Int32)), .val (.int (3 : Int32)), .val (.ref a_COMMIT), .val (.ref a_COMMIT), .val (.ref b3), .val (.int (0 : Int32))] [])) _
    refine XS.iconst X5.here hx rfl (hb hby at_173) ?_
    show Steps p.tables e below (T5.setTop (mkF m 174 #[.val (.int p0), .val (.int p1), .val (.int (3 : Int32)), .val (.int (3 : Int32)), .val (.ref a_COMMIT), .val (.ref a_COMMIT), .val (.ref b3), .val (.int (0 : Int32))] [(.int (1 : Int32))])) _
    refine XS.goto X5.here hx rfl (pc0 := 174) (pc' := 178) rfl (hb hby at_174) (by decide) (by decide) ?_
    show Steps p.tables e below (T5.setTop (mkF m 178 #[.val (.int p0), .val (.int p1), .val (.int (3 : Int32)), .val (.int (3 : Int32)), .val (.ref a_COMMIT), .val (.ref a_COMMIT), .val (.ref b3), .val (.int (0 : Int32))] [(.int (1 : Int32))])) _
    exact retN X5 hx (t := .boolean) Bd.returns (by simp) (hb hby at_178) hr
  · exact ⟨rfl, N5⟩
set_option maxRecDepth 65536 in
set_option maxHeartbeats 40000000 in
theorem rm2_19 (l : Launch) (Z : State) (a0 : Array Value) (hw : ∀ d ∈ tables_1, d.before a0 Z = true) (ws : List Jvm.Cond) (p0 p1 : Int32) (a_READ a_COMMIT a_ABORT a_WRITE a_INCREMENT : Addr) (h0 : Heap) (n0 : Nat) (Z0 : n0 ≤ h0.size) (FF : Facts Z h0 a_READ a_COMMIT a_ABORT a_WRITE a_INCREMENT) :
    MetFree l (⟨"com/example/schedulock/schedulock/schedule/OperationKind", "conflictsWith", "(Lcom/example/schedulock/schedulock/schedule/OperationKind;)Z"⟩ : MethodName) (head1 (Jvm.Cond.code (⟨"com/example/schedulock/schedulock/schedule/OperationKind", "conflictsWith", "(Lcom/example/schedulock/schedulock/schedule/OperationKind;)Z"⟩ : MethodName) prog_31_method_5_code 2 (some .boolean) :: ws) ({ frames := 0, cells := 0, slots := 0, locals := 0 } : Room)) (fun a U => a = #[(.ref a_COMMIT), (.ref a_ABORT)] ∧ Z.Warmed39 U.vm ∧ U.heap = h0) (fun _ _ _ _ _ => True) (fun _ U o U' => ∃ v L, o = .returned v ∧ own_Q (.int (0 : Int32)) h0 n0 v U'.heap L ∧ FrameEnd U o U' L ({ frames := 0, cells := 0, slots := 0, locals := 0 } : Room).cells ({ frames := 0, cells := 0, slots := 0, locals := 0 } : Room).slots) := by
  refine MetFree.of_bodySF (plainFor_of_name pn_2) hisR ?_
  intro p e s m args below meth c s₁ Bd hml0 hP hK
  obtain ⟨rfl, hZ, hh⟩ := hP
  have hx := Bd.exec
  have hby := Bd.bytes
  have hml : c.maxLocals = 2 := hml0
  have hown : s.vm.findClass "com/example/schedulock/schedulock/schedule/OperationKind" = some m.cls := findClass_of_methodNamed Bd.named
  have X0 : Stand p l e ({ frames := 0, cells := 0, slots := 0, locals := 0 } : Room) s m #[(.ref a_COMMIT), (.ref a_ABORT)] below meth c s₁ [] 0 0 := Stand.of_body Bd
  have e0 : s₁.heap = h0 := by rw [← hh, Bd.state]; rfl
  have N0 := Fr.nil n0
  have pre0 : ∀ t, Steps p.tables e below (s₁.setTop (mkF m 0 #[.val (.ref a_COMMIT), .val (.ref a_ABORT)] [])) t → Steps p.tables e below (s₁.setTop (entryFrame m #[(.ref a_COMMIT), (.ref a_ABORT)] 2)) t := fun t k => castTop (ef_2 m a_COMMIT a_ABORT) k
  obtain ⟨T1, X1, e1, st1⟩ := getF X0 hx hZ hown (host := "") (Or.inl (hw _ (List.mem_of_getElem? (i := 16) rfl))) Via.refl e0 (fx_F_COMMIT_takesItem FF) (g := (mkF m 1 #[.val (.ref a_COMMIT), .val (.ref a_ABORT)] [(.ref a_COMMIT)])) rfl rfl (hb hby d2_1)
  obtain ⟨fs, hr, hrun, hended, hW, hsame⟩ := X1.leave (v := some (.int (0 : Int32))) (fun h => by rw [Bd.returns] at h; cases h)
  refine ⟨_, _, pre0 _ ?_, hrun, hended, _, _, rfl, ?_, ⟨_, rfl⟩, hW, hsame.mono (by decide) (by decide)⟩
  · show Steps p.tables e below (s₁.setTop (mkF m 0 #[.val (.ref a_COMMIT), .val (.ref a_ABORT)] [])) _
    refine XS.aloadN X0.here hx rfl (hb hby d2_0) rfl rfl ?_
    show Steps p.tables e below (s₁.setTop (mkF m 1 #[.val (.ref a_COMMIT), .val (.ref a_ABORT)] [(.ref a_COMMIT)])) _
    refine st1 _ ?_
    show Steps p.tables e below (T1.setTop (mkF m 4 #[.val (.ref a_COMMIT), .val (.ref a_ABORT)] [(.int (0 : Int32))])) _
    refine XS.ifYes X1.here hx rfl (pc0 := 4) (pc' := 30) rfl (hb hby d2_4) rfl (by decide) (by decide) (by decide) ?_
    show Steps p.tables e below (T1.setTop (mkF m 30 #[.val (.ref a_COMMIT), .val (.ref a_ABORT)] [])) _
    refine XS.iconst X1.here hx rfl (hb hby d2_30) ?_
    show Steps p.tables e below (T1.setTop (mkF m 31 #[.val (.ref a_COMMIT), .val (.ref a_ABORT)] [(.int (0 : Int32))])) _
    exact retN X1 hx (t := .boolean) Bd.returns (by simp) (hb hby d2_31) hr
  · show own_Q _ _ _ _ T1.heap _
    exact ⟨rfl, N0, e1⟩
set_option maxRecDepth 65536 in
set_option maxHeartbeats 40000000 in
theorem rm0_19 (l : Launch) (Z : State) (a0 : Array Value) (hw : ∀ d ∈ tables_1, d.before a0 Z = true) (ws : List Jvm.Cond) (p0 p1 : Int32) (a_READ a_COMMIT a_ABORT a_WRITE a_INCREMENT : Addr) (h0 : Heap) (n0 : Nat) (Z0 : n0 ≤ h0.size) (FF : Facts Z h0 a_READ a_COMMIT a_ABORT a_WRITE a_INCREMENT) (hk0 : ((p0 &&& (2147483647 : Int32)) % (5 : Int32)) = (3 : Int32)) (hk1 : ((p1 &&& (2147483647 : Int32)) % (5 : Int32)) = (4 : Int32)) :
    MetFree l x (head1 (Jvm.Cond.code x code maxLocals ret :: ws) room_1) (fun a U => a = #[(.int p0), (.int p1)] ∧ Z.Warmed39 U.vm ∧ U.heap = h0) (fun _ _ _ _ _ => True) (fun _ U o U' => ∃ v L, o = .returned v ∧ (v = some (.int (1 : Int32)) ∧ Fr n0 L) ∧ FrameEnd U o U' L room_1.cells room_1.slots) := by
  refine MetFree.of_bodySF (plainFor_of_name pn_0) hisR ?_
  intro p e s m args below meth c s₁ Bd hml0 hP hK
  obtain ⟨rfl, hZ, hh⟩ := hP
  have hx := Bd.exec
  have hby := Bd.bytes
  have hml : c.maxLocals = 8 := hml0
  have hown : s.vm.findClass "com/example/schedulock/schedulock/schedule/OperationKindConflictsWithPinLaw" = some m.cls := findClass_of_methodNamed Bd.named
  have X0 : Stand p l e room_1 s m #[(.int p0), (.int p1)] below meth c s₁ [] 0 0 := Stand.of_body Bd
  have e0 : s₁.heap = h0 := by rw [← hh, Bd.state]; rfl
  have N0 := Fr.nil n0
  have pre0 : ∀ t, Steps p.tables e below (s₁.setTop (mkF m 0 #[.val (.int p0), .val (.int p1), .unset, .unset, .unset, .unset, .unset, .unset] [])) t → Steps p.tables e below (s₁.setTop (entryFrame m #[(.int p0), (.int p1)] maxLocals)) t := fun t k => castTop (ef_0 m p0 p1) k
  obtain ⟨_, _, ⟨T1, L1, k1, n1⟩, -, X1, ⟨Lc1, hQ1, l1, y1, z1⟩, st1⟩ := Jvm.LawKit.callS X0 hx (y := (⟨"com/example/schedulock/schedulock/schedule/OperationKindConflictsWithPinLaw", "kind", "(I)Lcom/example/schedulock/schedulock/schedule/OperationKind;"⟩ : MethodName)) hown (mvT hZ (hw _ (List.mem_of_getElem? (i := 1) rfl))) (mvT hZ (hw _ (List.mem_of_getElem? (i := 2) rfl))) (mvT hZ (hw _ (List.mem_of_getElem? (i := 3) rfl))) (mvT hZ (hw _ (List.mem_of_getElem? (i := 4) rfl))) (by decide) (backOf (W := 0) (rm1_3 l Z a0 hw [] p0 p1 a_READ a_COMMIT a_ABORT a_WRITE a_INCREMENT h0 n0 (Nat.le_trans Z0 (Nat.le_refl _)) FF) hZ (hw _ (List.mem_of_getElem? (i := 4) rfl)) (hw _ (List.mem_of_getElem? (i := 3) rfl)) (by decide) (by decide)) (g := (mkF m 15 #[.val (.int p0), .val (.int p1), .val (.int (3 : Int32)), .val (.int (4 : Int32)), .unset, .unset, .unset, .unset] [(.int (3 : Int32))])) rfl (by rw [hml]; rfl) (argsL := [(.int (3 : Int32))]) (rest := []) (lenOf pd_0 rfl) rfl (by show 2 * 0 + _ ≤ _; exact Nat.le_of_eq rfl) (hb hby at_15) (fun _ _ => ⟨rfl, e0, (by decide : 0 + 0 ≤ _), (by decide : 0 + 0 ≤ _)⟩)
  dsimp only [Pt.U, Pt.locs, Pt.cells, Pt.slots] at X1 l1 y1 z1 st1 hQ1
  subst l1 y1 z1
  obtain ⟨rfl, N1q, e1⟩ := hQ1
  have N1 := Fr.app N0 N1q
  obtain ⟨_, _, ⟨T2, L2, k2, n2⟩, -, X2, ⟨Lc2, hQ2, l2, y2, z2⟩, st2⟩ := Jvm.LawKit.callS X1 hx (y := (⟨"com/example/schedulock/schedulock/schedule/OperationKindConflictsWithPinLaw", "kind", "(I)Lcom/example/schedulock/schedulock/schedule/OperationKind;"⟩ : MethodName)) hown (mvT hZ (hw _ (List.mem_of_getElem? (i := 1) rfl))) (mvT hZ (hw _ (List.mem_of_getElem? (i := 2) rfl))) (mvT hZ (hw _ (List.mem_of_getElem? (i := 3) rfl))) (mvT hZ (hw _ (List.mem_of_getElem? (i := 4) rfl))) (by decide) (backOf (W := 0) (rm1_4 l Z a0 hw [] p0 p1 a_READ a_COMMIT a_ABORT a_WRITE a_INCREMENT h0 n0 (Nat.le_trans Z0 (Nat.le_refl _)) FF) hZ (hw _ (List.mem_of_getElem? (i := 4) rfl)) (hw _ (List.mem_of_getElem? (i := 3) rfl)) (by decide) (by decide)) (g := (mkF m 21 #[.val (.int p0), .val (.int p1), .val (.int (3 : Int32)), .val (.int (4 : Int32)), .val (.ref a_COMMIT), .unset, .unset, .unset] [(.int (4 : Int32))])) rfl (by rw [hml]; rfl) (argsL := [(.int (4 : Int32))]) (rest := []) (lenOf pd_0 rfl) rfl (by show 2 * 0 + _ ≤ _; exact Nat.le_of_eq rfl) (hb hby at_21) (fun _ _ => ⟨rfl, e1, (by decide : 0 + 0 ≤ _), (by decide : 0 + 0 ≤ _)⟩)
  dsimp only [Pt.U, Pt.locs, Pt.cells, Pt.slots] at X2 l2 y2 z2 st2 hQ2
  subst l2 y2 z2
  obtain ⟨rfl, N2q, e2⟩ := hQ2
  have N2 := Fr.app N1 N2q
  obtain ⟨T3, h3, b3, k3, lc3, X3, e3, s_b3, z3, N3, FF3, V3, st3⟩ := seg_0 (l := l) (Z := Z) hw a_READ a_COMMIT a_ABORT a_WRITE a_INCREMENT p0 p1 (3 : Int32) (4 : Int32) a_COMMIT a_ABORT X2 hx hZ hby hml hown e2 Z0 N2 FF
  obtain ⟨c4, r4, -, S4, -, H4, -⟩ := V3
  have i4 : ¬ ((19 : Int32) < 0 ∨ c4.slots.size ≤ ((19 : Int32)).toNatClampNeg) := inb_of S4 ⟨by decide, by decide⟩
  have y4 : c4.slots[((19 : Int32)).toNatClampNeg]? = some (.int (0 : Int32)) := H4 19 (by rw [S4]; decide)
  obtain ⟨cq5, kq5, q5a, q5b, q5c⟩ := isOf hZ e3 (fx_E_COMMIT FF3)
  obtain ⟨_, _, ⟨T5, L5, k5, n5⟩, -, X5, ⟨Lc5, hQ5, l5, y5, z5⟩, st5⟩ := X3.virtualBack hx (y := (⟨"com/example/schedulock/schedulock/schedule/OperationKind", "conflictsWith", "(Lcom/example/schedulock/schedulock/schedule/OperationKind;)Z"⟩ : MethodName)) (z := (⟨"com/example/schedulock/schedulock/schedule/OperationKind", "conflictsWith", "(Lcom/example/schedulock/schedulock/schedule/OperationKind;)Z"⟩ : MethodName)) hown (mvT hZ (hw _ (List.mem_of_getElem? (i := 11) rfl))) (mvT hZ (hw _ (List.mem_of_getElem? (i := 12) rfl))) (notFace_of_selects (args := #[]) (mvT hZ (hw _ (List.mem_of_getElem? (i := 14) rfl)))) (mvT hZ (hw _ (List.mem_of_getElem? (i := 14) rfl))) (mvT hZ (hw _ (List.mem_of_getElem? (i := 13) rfl))) (by decide) (backOf (W := 0) (rm2_19 l Z a0 hw [] p0 p1 a_READ a_COMMIT a_ABORT a_WRITE a_INCREMENT h3 n0 (Nat.le_trans Z0 z3) FF3) hZ (hw _ (List.mem_of_getElem? (i := 15) rfl)) (hw _ (List.mem_of_getElem? (i := 6) rfl)) (by decide) (by decide)) q5a q5c (g := (mkF m 165 #[.val (.int p0), .val (.int p1), .val (.int (3 : Int32)), .val (.int (4 : Int32)), .val (.ref a_COMMIT), .val (.ref a_ABORT), .val (.ref b3), .val (.int (0 : Int32))] [(.ref a_ABORT), (.ref a_COMMIT)])) rfl (by rw [hml]; rfl) (Steps.refl _) (argsL := [(.ref a_ABORT)]) (rest := []) (lenOf pd_1 rfl) rfl (by show 2 * 0 + _ ≤ _; exact Nat.le_of_eq rfl) (hb hby at_165) (fun _ _ => ⟨rfl, e3, (by decide : 1 + 0 ≤ _), (by decide : 25 + 0 ≤ _)⟩)
  dsimp only [Pt.U, Pt.locs, Pt.cells, Pt.slots] at X5 l5 y5 z5 st5 hQ5
  subst l5 y5 z5
  obtain ⟨rfl, N5q, e5⟩ := hQ5
  have N5 := Fr.app N3 N5q
  obtain ⟨fs, hr, hrun, hended, hW, hsame⟩ := X5.leave (v := some (.int (1 : Int32))) (fun h => by rw [Bd.returns] at h; cases h)
  refine ⟨_, _, pre0 _ ?_, hrun, hended, _, _, rfl, ?_, ⟨_, rfl⟩, hW, hsame.mono (by decide) (by decide)⟩
  · show Steps p.tables e below (s₁.setTop (mkF m 0 #[.val (.int p0), .val (.int p1), .unset, .unset, .unset, .unset, .unset, .unset] [])) _
    refine XS.iloadN X0.here hx rfl (hb hby at_0) rfl ?_
    show Steps p.tables e below (s₁.setTop (mkF m 1 #[.val (.int p0), .val (.int p1), .unset, .unset, .unset, .unset, .unset, .unset] [(.int p0)])) _
    refine X0.ldcInt hx hown (mvT hZ (hw _ (List.mem_of_getElem? (i := 0) rfl))) (g := (mkF m 1 #[.val (.int p0), .val (.int p1), .unset, .unset, .unset, .unset, .unset, .unset] [(.int p0)])) rfl (hb hby at_1) _ ?_
    show Steps p.tables e below (s₁.setTop (mkF m 3 #[.val (.int p0), .val (.int p1), .unset, .unset, .unset, .unset, .unset, .unset] [(.int (2147483647 : Int32)), (.int p0)])) _
    refine XS.iand X0.here hx rfl (hb hby at_3) rfl ?_
    show Steps p.tables e below (s₁.setTop (mkF m 4 #[.val (.int p0), .val (.int p1), .unset, .unset, .unset, .unset, .unset, .unset] [(.int (p0 &&& (2147483647 : Int32)))])) _
    refine XS.iconst X0.here hx rfl (hb hby at_4) ?_
    show Steps p.tables e below (s₁.setTop (mkF m 5 #[.val (.int p0), .val (.int p1), .unset, .unset, .unset, .unset, .unset, .unset] [(.int (5 : Int32)), (.int (p0 &&& (2147483647 : Int32)))])) _
    refine iremM X0 hx rfl (hb hby at_5) rfl (by decide) ?_
    show Steps p.tables e below (s₁.setTop (mkF m 6 #[.val (.int p0), .val (.int p1), .unset, .unset, .unset, .unset, .unset, .unset] [(.int ((p0 &&& (2147483647 : Int32)) % (5 : Int32)))])) _
    rw [hk0]
    show Steps p.tables e below (s₁.setTop (mkF m 6 #[.val (.int p0), .val (.int p1), .unset, .unset, .unset, .unset, .unset, .unset] [(.int (3 : Int32))])) _
    refine XS.istoreN X0.here hx rfl (hb hby at_6) rfl (l' := #[.val (.int p0), .val (.int p1), .val (.int (3 : Int32)), .unset, .unset, .unset, .unset, .unset]) rfl ?_
    show Steps p.tables e below (s₁.setTop (mkF m 7 #[.val (.int p0), .val (.int p1), .val (.int (3 : Int32)), .unset, .unset, .unset, .unset, .unset] [])) _
    refine XS.iloadN X0.here hx rfl (hb hby at_7) rfl ?_
    show Steps p.tables e below (s₁.setTop (mkF m 8 #[.val (.int p0), .val (.int p1), .val (.int (3 : Int32)), .unset, .unset, .unset, .unset, .unset] [(.int p1)])) _
    refine X0.ldcInt hx hown (mvT hZ (hw _ (List.mem_of_getElem? (i := 0) rfl))) (g := (mkF m 8 #[.val (.int p0), .val (.int p1), .val (.int (3 : Int32)), .unset, .unset, .unset, .unset, .unset] [(.int p1)])) rfl (hb hby at_8) _ ?_
    show Steps p.tables e below (s₁.setTop (mkF m 10 #[.val (.int p0), .val (.int p1), .val (.int (3 : Int32)), .unset, .unset, .unset, .unset, .unset] [(.int (2147483647 : Int32)), (.int p1)])) _
    refine XS.iand X0.here hx rfl (hb hby at_10) rfl ?_
    show Steps p.tables e below (s₁.setTop (mkF m 11 #[.val (.int p0), .val (.int p1), .val (.int (3 : Int32)), .unset, .unset, .unset, .unset, .unset] [(.int (p1 &&& (2147483647 : Int32)))])) _
    refine XS.iconst X0.here hx rfl (hb hby at_11) ?_
    show Steps p.tables e below (s₁.setTop (mkF m 12 #[.val (.int p0), .val (.int p1), .val (.int (3 : Int32)), .unset, .unset, .unset, .unset, .unset] [(.int (5 : Int32)), (.int (p1 &&& (2147483647 : Int32)))])) _
    refine iremM X0 hx rfl (hb hby at_12) rfl (by decide) ?_
    show Steps p.tables e below (s₁.setTop (mkF m 13 #[.val (.int p0), .val (.int p1), .val (.int (3 : Int32)), .unset, .unset, .unset, .unset, .unset] [(.int ((p1 &&& (2147483647 : Int32)) % (5 : Int32)))])) _
    rw [hk1]
    show Steps p.tables e below (s₁.setTop (mkF m 13 #[.val (.int p0), .val (.int p1), .val (.int (3 : Int32)), .unset, .unset, .unset, .unset, .unset] [(.int (4 : Int32))])) _
    refine XS.istoreN X0.here hx rfl (hb hby at_13) rfl (l' := #[.val (.int p0), .val (.int p1), .val (.int (3 : Int32)), .val (.int (4 : Int32)), .unset, .unset, .unset, .unset]) rfl ?_
    show Steps p.tables e below (s₁.setTop (mkF m 14 #[.val (.int p0), .val (.int p1), .val (.int (3 : Int32)), .val (.int (4 : Int32)), .unset, .unset, .unset, .unset] [])) _
    refine XS.iloadN X0.here hx rfl (hb hby at_14) rfl ?_
    show Steps p.tables e below (s₁.setTop (mkF m 15 #[.val (.int p0), .val (.int p1), .val (.int (3 : Int32)), .val (.int (4 : Int32)), .unset, .unset, .unset, .unset] [(.int (3 : Int32))])) _
    refine st1 _ ?_
    show Steps p.tables e below (T1.setTop (mkF m 18 #[.val (.int p0), .val (.int p1), .val (.int (3 : Int32)), .val (.int (4 : Int32)), .unset, .unset, .unset, .unset] [(.ref a_COMMIT)])) _
    refine XS.astore X1.here hx rfl (hb hby at_18) rfl rfl (l' := #[.val (.int p0), .val (.int p1), .val (.int (3 : Int32)), .val (.int (4 : Int32)), .val (.ref a_COMMIT), .unset, .unset, .unset]) rfl ?_
    show Steps p.tables e below (T1.setTop (mkF m 20 #[.val (.int p0), .val (.int p1), .val (.int (3 : Int32)), .val (.int (4 : Int32)), .val (.ref a_COMMIT), .unset, .unset, .unset] [])) _
    refine XS.iloadN X1.here hx rfl (hb hby at_20) rfl ?_
    show Steps p.tables e below (T1.setTop (mkF m 21 #[.val (.int p0), .val (.int p1), .val (.int (3 : Int32)), .val (.int (4 : Int32)), .val (.ref a_COMMIT), .unset, .unset, .unset] [(.int (4 : Int32))])) _
    refine st2 _ ?_
    show Steps p.tables e below (T2.setTop (mkF m 24 #[.val (.int p0), .val (.int p1), .val (.int (3 : Int32)), .val (.int (4 : Int32)), .val (.ref a_COMMIT), .unset, .unset, .unset] [(.ref a_ABORT)])) _
    refine XS.astore X2.here hx rfl (hb hby at_24) rfl rfl (l' := #[.val (.int p0), .val (.int p1), .val (.int (3 : Int32)), .val (.int (4 : Int32)), .val (.ref a_COMMIT), .val (.ref a_ABORT), .unset, .unset]) rfl ?_
    show Steps p.tables e below (T2.setTop (mkF m 26 #[.val (.int p0), .val (.int p1), .val (.int (3 : Int32)), .val (.int (4 : Int32)), .val (.ref a_COMMIT), .val (.ref a_ABORT), .unset, .unset] [])) _
    refine st3 _ ?_
    show Steps p.tables e below (T3.setTop (mkF m 151 #[.val (.int p0), .val (.int p1), .val (.int (3 : Int32)), .val (.int (4 : Int32)), .val (.ref a_COMMIT), .val (.ref a_ABORT), .val (.ref b3), .unset] [])) _
    refine XS.aload X3.here hx rfl (hb hby at_151) rfl rfl ?_
    show Steps p.tables e below (T3.setTop (mkF m 153 #[.val (.int p0), .val (.int p1), .val (.int (3 : Int32)), .val (.int (4 : Int32)), .val (.ref a_COMMIT), .val (.ref a_ABORT), .val (.ref b3), .unset] [(.ref b3)])) _
    refine XS.iloadN X3.here hx rfl (hb hby at_153) rfl ?_
    show Steps p.tables e below (T3.setTop (mkF m 154 #[.val (.int p0), .val (.int p1), .val (.int (3 : Int32)), .val (.int (4 : Int32)), .val (.ref a_COMMIT), .val (.ref a_ABORT), .val (.ref b3), .unset] [(.int (3 : Int32)), (.ref b3)])) _
    refine XS.iconst X3.here hx rfl (hb hby at_154) ?_
    show Steps p.tables e below (T3.setTop (mkF m 155 #[.val (.int p0), .val (.int p1), .val (.int (3 : Int32)), .val (.int (4 : Int32)), .val (.ref a_COMMIT), .val (.ref a_ABORT), .val (.ref b3), .unset] [(.int (5 : Int32)), (.int (3 : Int32)), (.ref b3)])) _
    refine XS.imul X3.here hx rfl (hb hby at_155) rfl ?_
    show Steps p.tables e below (T3.setTop (mkF m 156 #[.val (.int p0), .val (.int p1), .val (.int (3 : Int32)), .val (.int (4 : Int32)), .val (.ref a_COMMIT), .val (.ref a_ABORT), .val (.ref b3), .unset] [(.int ((3 : Int32) * (5 : Int32))), (.ref b3)])) _
    rw [(by decide : ((3 : Int32) * (5 : Int32)) = (15 : Int32))]
    show Steps p.tables e below (T3.setTop (mkF m 156 #[.val (.int p0), .val (.int p1), .val (.int (3 : Int32)), .val (.int (4 : Int32)), .val (.ref a_COMMIT), .val (.ref a_ABORT), .val (.ref b3), .unset] [(.int (15 : Int32)), (.ref b3)])) _
    refine XS.iloadN X3.here hx rfl (hb hby at_156) rfl ?_
    show Steps p.tables e below (T3.setTop (mkF m 157 #[.val (.int p0), .val (.int p1), .val (.int (3 : Int32)), .val (.int (4 : Int32)), .val (.ref a_COMMIT), .val (.ref a_ABORT), .val (.ref b3), .unset] [(.int (4 : Int32)), (.int (15 : Int32)), (.ref b3)])) _
    refine XS.iadd X3.here hx rfl (hb hby at_157) rfl ?_
    show Steps p.tables e below (T3.setTop (mkF m 158 #[.val (.int p0), .val (.int p1), .val (.int (3 : Int32)), .val (.int (4 : Int32)), .val (.ref a_COMMIT), .val (.ref a_ABORT), .val (.ref b3), .unset] [(.int ((15 : Int32) + (4 : Int32))), (.ref b3)])) _
    rw [(by decide : ((15 : Int32) + (4 : Int32)) = (19 : Int32))]
    show Steps p.tables e below (T3.setTop (mkF m 158 #[.val (.int p0), .val (.int p1), .val (.int (3 : Int32)), .val (.int (4 : Int32)), .val (.ref a_COMMIT), .val (.ref a_ABORT), .val (.ref b3), .unset] [(.int (19 : Int32)), (.ref b3)])) _
    refine X3.baloadBooleans hx (j := (19 : Int32)) (v := (.int (0 : Int32))) (by rw [e3]; exact r4.1) (State.isArrayOf_alike hZ.alike r4.2.1) r4.2.2 i4 y4 (g := (mkF m 158 #[.val (.int p0), .val (.int p1), .val (.int (3 : Int32)), .val (.int (4 : Int32)), .val (.ref a_COMMIT), .val (.ref a_ABORT), .val (.ref b3), .unset] [(.int (19 : Int32)), (.ref b3)])) rfl rfl (hb hby at_158) _ ?_
    show Steps p.tables e below (T3.setTop (mkF m 159 #[.val (.int p0), .val (.int p1), .val (.int (3 : Int32)), .val (.int (4 : Int32)), .val (.ref a_COMMIT), .val (.ref a_ABORT), .val (.ref b3), .unset] [(.int (0 : Int32))])) _
    refine XS.istore X3.here hx rfl (hb hby at_159) rfl (l' := #[.val (.int p0), .val (.int p1), .val (.int (3 : Int32)), .val (.int (4 : Int32)), .val (.ref a_COMMIT), .val (.ref a_ABORT), .val (.ref b3), .val (.int (0 : Int32))]) rfl ?_
    show Steps p.tables e below (T3.setTop (mkF m 161 #[.val (.int p0), .val (.int p1), .val (.int (3 : Int32)), .val (.int (4 : Int32)), .val (.ref a_COMMIT), .val (.ref a_ABORT), .val (.ref b3), .val (.int (0 : Int32))] [])) _
    refine XS.aload X3.here hx rfl (hb hby at_161) rfl rfl ?_
    show Steps p.tables e below (T3.setTop (mkF m 163 #[.val (.int p0), .val (.int p1), .val (.int (3 : Int32)), .val (.int (4 : Int32)), .val (.ref a_COMMIT), .val (.ref a_ABORT), .val (.ref b3), .val (.int (0 : Int32))] [(.ref a_COMMIT)])) _
    refine XS.aload X3.here hx rfl (hb hby at_163) rfl rfl ?_
    show Steps p.tables e below (T3.setTop (mkF m 165 #[.val (.int p0), .val (.int p1), .val (.int (3 : Int32)), .val (.int (4 : Int32)), .val (.ref a_COMMIT), .val (.ref a_ABORT), .val (.ref b3), .val (.int (0 : Int32))] [(.ref a_ABORT), (.ref a_COMMIT)])) _
    refine st5.trans ?_
    show Steps p.tables e below (T5.setTop (mkF m 168 #[.val (.int p0), .val (.int p1), .val (.int (3 : Int32)), .val (.int (4 : Int32)), .val (.ref a_COMMIT), .val (.ref a_ABORT), .val (.ref b3), .val (.int (0 : Int32))] [(.int (0 : Int32))])) _
    refine XS.iload X5.here hx rfl (hb hby at_168) rfl ?_
    show Steps p.tables e below (T5.setTop (mkF m 170 #[.val (.int p0), .val (.int p1), .val (.int (3 : Int32)), .val (.int (4 : Int32)), .val (.ref a_COMMIT), .val (.ref a_ABORT), .val (.ref b3), .val (.int (0 : Int32))] [(.int (0 : Int32)), (.int (0 : Int32))])) _
    refine XS.icmpNo X5.here hx rfl (hb hby at_170) rfl (by decide) ?_
    show Steps p.tables e below (T5.setTop (mkF m 173 #[.val (.int p0), .val (.int p1), .val (.int (3 : Int32)), .val (.int (4 : Int32)), .val (.ref a_COMMIT), .val (.ref a_ABORT), .val (.ref b3), .val (.int (0 : Int32))] [])) _
    refine XS.iconst X5.here hx rfl (hb hby at_173) ?_
    show Steps p.tables e below (T5.setTop (mkF m 174 #[.val (.int p0), .val (.int p1), .val (.int (3 : Int32)), .val (.int (4 : Int32)), .val (.ref a_COMMIT), .val (.ref a_ABORT), .val (.ref b3), .val (.int (0 : Int32))] [(.int (1 : Int32))])) _
    refine XS.goto X5.here hx rfl (pc0 := 174) (pc' := 178) rfl (hb hby at_174) (by decide) (by decide) ?_
    show Steps p.tables e below (T5.setTop (mkF m 178 #[.val (.int p0), .val (.int p1), .val (.int (3 : Int32)), .val (.int (4 : Int32)), .val (.ref a_COMMIT), .val (.ref a_ABORT), .val (.ref b3), .val (.int (0 : Int32))] [(.int (1 : Int32))])) _
    exact retN X5 hx (t := .boolean) Bd.returns (by simp) (hb hby at_178) hr
  · exact ⟨rfl, N5⟩
set_option maxRecDepth 65536 in
set_option maxHeartbeats 40000000 in
theorem rm2_20 (l : Launch) (Z : State) (a0 : Array Value) (hw : ∀ d ∈ tables_1, d.before a0 Z = true) (ws : List Jvm.Cond) (p0 p1 : Int32) (a_READ a_COMMIT a_ABORT a_WRITE a_INCREMENT : Addr) (h0 : Heap) (n0 : Nat) (Z0 : n0 ≤ h0.size) (FF : Facts Z h0 a_READ a_COMMIT a_ABORT a_WRITE a_INCREMENT) :
    MetFree l (⟨"com/example/schedulock/schedulock/schedule/OperationKind", "conflictsWith", "(Lcom/example/schedulock/schedulock/schedule/OperationKind;)Z"⟩ : MethodName) (head1 (Jvm.Cond.code (⟨"com/example/schedulock/schedulock/schedule/OperationKind", "conflictsWith", "(Lcom/example/schedulock/schedulock/schedule/OperationKind;)Z"⟩ : MethodName) prog_31_method_5_code 2 (some .boolean) :: ws) ({ frames := 0, cells := 0, slots := 0, locals := 0 } : Room)) (fun a U => a = #[(.ref a_ABORT), (.ref a_READ)] ∧ Z.Warmed39 U.vm ∧ U.heap = h0) (fun _ _ _ _ _ => True) (fun _ U o U' => ∃ v L, o = .returned v ∧ own_Q (.int (0 : Int32)) h0 n0 v U'.heap L ∧ FrameEnd U o U' L ({ frames := 0, cells := 0, slots := 0, locals := 0 } : Room).cells ({ frames := 0, cells := 0, slots := 0, locals := 0 } : Room).slots) := by
  refine MetFree.of_bodySF (plainFor_of_name pn_2) hisR ?_
  intro p e s m args below meth c s₁ Bd hml0 hP hK
  obtain ⟨rfl, hZ, hh⟩ := hP
  have hx := Bd.exec
  have hby := Bd.bytes
  have hml : c.maxLocals = 2 := hml0
  have hown : s.vm.findClass "com/example/schedulock/schedulock/schedule/OperationKind" = some m.cls := findClass_of_methodNamed Bd.named
  have X0 : Stand p l e ({ frames := 0, cells := 0, slots := 0, locals := 0 } : Room) s m #[(.ref a_ABORT), (.ref a_READ)] below meth c s₁ [] 0 0 := Stand.of_body Bd
  have e0 : s₁.heap = h0 := by rw [← hh, Bd.state]; rfl
  have N0 := Fr.nil n0
  have pre0 : ∀ t, Steps p.tables e below (s₁.setTop (mkF m 0 #[.val (.ref a_ABORT), .val (.ref a_READ)] [])) t → Steps p.tables e below (s₁.setTop (entryFrame m #[(.ref a_ABORT), (.ref a_READ)] 2)) t := fun t k => castTop (ef_2 m a_ABORT a_READ) k
  obtain ⟨T1, X1, e1, st1⟩ := getF X0 hx hZ hown (host := "") (Or.inl (hw _ (List.mem_of_getElem? (i := 16) rfl))) Via.refl e0 (fx_F_ABORT_takesItem FF) (g := (mkF m 1 #[.val (.ref a_ABORT), .val (.ref a_READ)] [(.ref a_ABORT)])) rfl rfl (hb hby d2_1)
  obtain ⟨fs, hr, hrun, hended, hW, hsame⟩ := X1.leave (v := some (.int (0 : Int32))) (fun h => by rw [Bd.returns] at h; cases h)
  refine ⟨_, _, pre0 _ ?_, hrun, hended, _, _, rfl, ?_, ⟨_, rfl⟩, hW, hsame.mono (by decide) (by decide)⟩
  · show Steps p.tables e below (s₁.setTop (mkF m 0 #[.val (.ref a_ABORT), .val (.ref a_READ)] [])) _
    refine XS.aloadN X0.here hx rfl (hb hby d2_0) rfl rfl ?_
    show Steps p.tables e below (s₁.setTop (mkF m 1 #[.val (.ref a_ABORT), .val (.ref a_READ)] [(.ref a_ABORT)])) _
    refine st1 _ ?_
    show Steps p.tables e below (T1.setTop (mkF m 4 #[.val (.ref a_ABORT), .val (.ref a_READ)] [(.int (0 : Int32))])) _
    refine XS.ifYes X1.here hx rfl (pc0 := 4) (pc' := 30) rfl (hb hby d2_4) rfl (by decide) (by decide) (by decide) ?_
    show Steps p.tables e below (T1.setTop (mkF m 30 #[.val (.ref a_ABORT), .val (.ref a_READ)] [])) _
    refine XS.iconst X1.here hx rfl (hb hby d2_30) ?_
    show Steps p.tables e below (T1.setTop (mkF m 31 #[.val (.ref a_ABORT), .val (.ref a_READ)] [(.int (0 : Int32))])) _
    exact retN X1 hx (t := .boolean) Bd.returns (by simp) (hb hby d2_31) hr
  · show own_Q _ _ _ _ T1.heap _
    exact ⟨rfl, N0, e1⟩
set_option maxRecDepth 65536 in
set_option maxHeartbeats 40000000 in
theorem rm0_20 (l : Launch) (Z : State) (a0 : Array Value) (hw : ∀ d ∈ tables_1, d.before a0 Z = true) (ws : List Jvm.Cond) (p0 p1 : Int32) (a_READ a_COMMIT a_ABORT a_WRITE a_INCREMENT : Addr) (h0 : Heap) (n0 : Nat) (Z0 : n0 ≤ h0.size) (FF : Facts Z h0 a_READ a_COMMIT a_ABORT a_WRITE a_INCREMENT) (hk0 : ((p0 &&& (2147483647 : Int32)) % (5 : Int32)) = (4 : Int32)) (hk1 : ((p1 &&& (2147483647 : Int32)) % (5 : Int32)) = (0 : Int32)) :
    MetFree l x (head1 (Jvm.Cond.code x code maxLocals ret :: ws) room_1) (fun a U => a = #[(.int p0), (.int p1)] ∧ Z.Warmed39 U.vm ∧ U.heap = h0) (fun _ _ _ _ _ => True) (fun _ U o U' => ∃ v L, o = .returned v ∧ (v = some (.int (1 : Int32)) ∧ Fr n0 L) ∧ FrameEnd U o U' L room_1.cells room_1.slots) := by
  refine MetFree.of_bodySF (plainFor_of_name pn_0) hisR ?_
  intro p e s m args below meth c s₁ Bd hml0 hP hK
  obtain ⟨rfl, hZ, hh⟩ := hP
  have hx := Bd.exec
  have hby := Bd.bytes
  have hml : c.maxLocals = 8 := hml0
  have hown : s.vm.findClass "com/example/schedulock/schedulock/schedule/OperationKindConflictsWithPinLaw" = some m.cls := findClass_of_methodNamed Bd.named
  have X0 : Stand p l e room_1 s m #[(.int p0), (.int p1)] below meth c s₁ [] 0 0 := Stand.of_body Bd
  have e0 : s₁.heap = h0 := by rw [← hh, Bd.state]; rfl
  have N0 := Fr.nil n0
  have pre0 : ∀ t, Steps p.tables e below (s₁.setTop (mkF m 0 #[.val (.int p0), .val (.int p1), .unset, .unset, .unset, .unset, .unset, .unset] [])) t → Steps p.tables e below (s₁.setTop (entryFrame m #[(.int p0), (.int p1)] maxLocals)) t := fun t k => castTop (ef_0 m p0 p1) k
  obtain ⟨_, _, ⟨T1, L1, k1, n1⟩, -, X1, ⟨Lc1, hQ1, l1, y1, z1⟩, st1⟩ := Jvm.LawKit.callS X0 hx (y := (⟨"com/example/schedulock/schedulock/schedule/OperationKindConflictsWithPinLaw", "kind", "(I)Lcom/example/schedulock/schedulock/schedule/OperationKind;"⟩ : MethodName)) hown (mvT hZ (hw _ (List.mem_of_getElem? (i := 1) rfl))) (mvT hZ (hw _ (List.mem_of_getElem? (i := 2) rfl))) (mvT hZ (hw _ (List.mem_of_getElem? (i := 3) rfl))) (mvT hZ (hw _ (List.mem_of_getElem? (i := 4) rfl))) (by decide) (backOf (W := 0) (rm1_4 l Z a0 hw [] p0 p1 a_READ a_COMMIT a_ABORT a_WRITE a_INCREMENT h0 n0 (Nat.le_trans Z0 (Nat.le_refl _)) FF) hZ (hw _ (List.mem_of_getElem? (i := 4) rfl)) (hw _ (List.mem_of_getElem? (i := 3) rfl)) (by decide) (by decide)) (g := (mkF m 15 #[.val (.int p0), .val (.int p1), .val (.int (4 : Int32)), .val (.int (0 : Int32)), .unset, .unset, .unset, .unset] [(.int (4 : Int32))])) rfl (by rw [hml]; rfl) (argsL := [(.int (4 : Int32))]) (rest := []) (lenOf pd_0 rfl) rfl (by show 2 * 0 + _ ≤ _; exact Nat.le_of_eq rfl) (hb hby at_15) (fun _ _ => ⟨rfl, e0, (by decide : 0 + 0 ≤ _), (by decide : 0 + 0 ≤ _)⟩)
  dsimp only [Pt.U, Pt.locs, Pt.cells, Pt.slots] at X1 l1 y1 z1 st1 hQ1
  subst l1 y1 z1
  obtain ⟨rfl, N1q, e1⟩ := hQ1
  have N1 := Fr.app N0 N1q
  obtain ⟨_, _, ⟨T2, L2, k2, n2⟩, -, X2, ⟨Lc2, hQ2, l2, y2, z2⟩, st2⟩ := Jvm.LawKit.callS X1 hx (y := (⟨"com/example/schedulock/schedulock/schedule/OperationKindConflictsWithPinLaw", "kind", "(I)Lcom/example/schedulock/schedulock/schedule/OperationKind;"⟩ : MethodName)) hown (mvT hZ (hw _ (List.mem_of_getElem? (i := 1) rfl))) (mvT hZ (hw _ (List.mem_of_getElem? (i := 2) rfl))) (mvT hZ (hw _ (List.mem_of_getElem? (i := 3) rfl))) (mvT hZ (hw _ (List.mem_of_getElem? (i := 4) rfl))) (by decide) (backOf (W := 0) (rm1_0 l Z a0 hw [] p0 p1 a_READ a_COMMIT a_ABORT a_WRITE a_INCREMENT h0 n0 (Nat.le_trans Z0 (Nat.le_refl _)) FF) hZ (hw _ (List.mem_of_getElem? (i := 4) rfl)) (hw _ (List.mem_of_getElem? (i := 3) rfl)) (by decide) (by decide)) (g := (mkF m 21 #[.val (.int p0), .val (.int p1), .val (.int (4 : Int32)), .val (.int (0 : Int32)), .val (.ref a_ABORT), .unset, .unset, .unset] [(.int (0 : Int32))])) rfl (by rw [hml]; rfl) (argsL := [(.int (0 : Int32))]) (rest := []) (lenOf pd_0 rfl) rfl (by show 2 * 0 + _ ≤ _; exact Nat.le_of_eq rfl) (hb hby at_21) (fun _ _ => ⟨rfl, e1, (by decide : 0 + 0 ≤ _), (by decide : 0 + 0 ≤ _)⟩)
  dsimp only [Pt.U, Pt.locs, Pt.cells, Pt.slots] at X2 l2 y2 z2 st2 hQ2
  subst l2 y2 z2
  obtain ⟨rfl, N2q, e2⟩ := hQ2
  have N2 := Fr.app N1 N2q
  obtain ⟨T3, h3, b3, k3, lc3, X3, e3, s_b3, z3, N3, FF3, V3, st3⟩ := seg_0 (l := l) (Z := Z) hw a_READ a_COMMIT a_ABORT a_WRITE a_INCREMENT p0 p1 (4 : Int32) (0 : Int32) a_ABORT a_READ X2 hx hZ hby hml hown e2 Z0 N2 FF
  obtain ⟨c4, r4, -, S4, -, H4, -⟩ := V3
  have i4 : ¬ ((20 : Int32) < 0 ∨ c4.slots.size ≤ ((20 : Int32)).toNatClampNeg) := inb_of S4 ⟨by decide, by decide⟩
  have y4 : c4.slots[((20 : Int32)).toNatClampNeg]? = some (.int (0 : Int32)) := H4 20 (by rw [S4]; decide)
  obtain ⟨cq5, kq5, q5a, q5b, q5c⟩ := isOf hZ e3 (fx_E_ABORT FF3)
  obtain ⟨_, _, ⟨T5, L5, k5, n5⟩, -, X5, ⟨Lc5, hQ5, l5, y5, z5⟩, st5⟩ := X3.virtualBack hx (y := (⟨"com/example/schedulock/schedulock/schedule/OperationKind", "conflictsWith", "(Lcom/example/schedulock/schedulock/schedule/OperationKind;)Z"⟩ : MethodName)) (z := (⟨"com/example/schedulock/schedulock/schedule/OperationKind", "conflictsWith", "(Lcom/example/schedulock/schedulock/schedule/OperationKind;)Z"⟩ : MethodName)) hown (mvT hZ (hw _ (List.mem_of_getElem? (i := 11) rfl))) (mvT hZ (hw _ (List.mem_of_getElem? (i := 12) rfl))) (notFace_of_selects (args := #[]) (mvT hZ (hw _ (List.mem_of_getElem? (i := 14) rfl)))) (mvT hZ (hw _ (List.mem_of_getElem? (i := 14) rfl))) (mvT hZ (hw _ (List.mem_of_getElem? (i := 13) rfl))) (by decide) (backOf (W := 0) (rm2_20 l Z a0 hw [] p0 p1 a_READ a_COMMIT a_ABORT a_WRITE a_INCREMENT h3 n0 (Nat.le_trans Z0 z3) FF3) hZ (hw _ (List.mem_of_getElem? (i := 15) rfl)) (hw _ (List.mem_of_getElem? (i := 6) rfl)) (by decide) (by decide)) q5a q5c (g := (mkF m 165 #[.val (.int p0), .val (.int p1), .val (.int (4 : Int32)), .val (.int (0 : Int32)), .val (.ref a_ABORT), .val (.ref a_READ), .val (.ref b3), .val (.int (0 : Int32))] [(.ref a_READ), (.ref a_ABORT)])) rfl (by rw [hml]; rfl) (Steps.refl _) (argsL := [(.ref a_READ)]) (rest := []) (lenOf pd_1 rfl) rfl (by show 2 * 0 + _ ≤ _; exact Nat.le_of_eq rfl) (hb hby at_165) (fun _ _ => ⟨rfl, e3, (by decide : 1 + 0 ≤ _), (by decide : 25 + 0 ≤ _)⟩)
  dsimp only [Pt.U, Pt.locs, Pt.cells, Pt.slots] at X5 l5 y5 z5 st5 hQ5
  subst l5 y5 z5
  obtain ⟨rfl, N5q, e5⟩ := hQ5
  have N5 := Fr.app N3 N5q
  obtain ⟨fs, hr, hrun, hended, hW, hsame⟩ := X5.leave (v := some (.int (1 : Int32))) (fun h => by rw [Bd.returns] at h; cases h)
  refine ⟨_, _, pre0 _ ?_, hrun, hended, _, _, rfl, ?_, ⟨_, rfl⟩, hW, hsame.mono (by decide) (by decide)⟩
  · show Steps p.tables e below (s₁.setTop (mkF m 0 #[.val (.int p0), .val (.int p1), .unset, .unset, .unset, .unset, .unset, .unset] [])) _
    refine XS.iloadN X0.here hx rfl (hb hby at_0) rfl ?_
    show Steps p.tables e below (s₁.setTop (mkF m 1 #[.val (.int p0), .val (.int p1), .unset, .unset, .unset, .unset, .unset, .unset] [(.int p0)])) _
    refine X0.ldcInt hx hown (mvT hZ (hw _ (List.mem_of_getElem? (i := 0) rfl))) (g := (mkF m 1 #[.val (.int p0), .val (.int p1), .unset, .unset, .unset, .unset, .unset, .unset] [(.int p0)])) rfl (hb hby at_1) _ ?_
    show Steps p.tables e below (s₁.setTop (mkF m 3 #[.val (.int p0), .val (.int p1), .unset, .unset, .unset, .unset, .unset, .unset] [(.int (2147483647 : Int32)), (.int p0)])) _
    refine XS.iand X0.here hx rfl (hb hby at_3) rfl ?_
    show Steps p.tables e below (s₁.setTop (mkF m 4 #[.val (.int p0), .val (.int p1), .unset, .unset, .unset, .unset, .unset, .unset] [(.int (p0 &&& (2147483647 : Int32)))])) _
    refine XS.iconst X0.here hx rfl (hb hby at_4) ?_
    show Steps p.tables e below (s₁.setTop (mkF m 5 #[.val (.int p0), .val (.int p1), .unset, .unset, .unset, .unset, .unset, .unset] [(.int (5 : Int32)), (.int (p0 &&& (2147483647 : Int32)))])) _
    refine iremM X0 hx rfl (hb hby at_5) rfl (by decide) ?_
    show Steps p.tables e below (s₁.setTop (mkF m 6 #[.val (.int p0), .val (.int p1), .unset, .unset, .unset, .unset, .unset, .unset] [(.int ((p0 &&& (2147483647 : Int32)) % (5 : Int32)))])) _
    rw [hk0]
    show Steps p.tables e below (s₁.setTop (mkF m 6 #[.val (.int p0), .val (.int p1), .unset, .unset, .unset, .unset, .unset, .unset] [(.int (4 : Int32))])) _
    refine XS.istoreN X0.here hx rfl (hb hby at_6) rfl (l' := #[.val (.int p0), .val (.int p1), .val (.int (4 : Int32)), .unset, .unset, .unset, .unset, .unset]) rfl ?_
    show Steps p.tables e below (s₁.setTop (mkF m 7 #[.val (.int p0), .val (.int p1), .val (.int (4 : Int32)), .unset, .unset, .unset, .unset, .unset] [])) _
    refine XS.iloadN X0.here hx rfl (hb hby at_7) rfl ?_
    show Steps p.tables e below (s₁.setTop (mkF m 8 #[.val (.int p0), .val (.int p1), .val (.int (4 : Int32)), .unset, .unset, .unset, .unset, .unset] [(.int p1)])) _
    refine X0.ldcInt hx hown (mvT hZ (hw _ (List.mem_of_getElem? (i := 0) rfl))) (g := (mkF m 8 #[.val (.int p0), .val (.int p1), .val (.int (4 : Int32)), .unset, .unset, .unset, .unset, .unset] [(.int p1)])) rfl (hb hby at_8) _ ?_
    show Steps p.tables e below (s₁.setTop (mkF m 10 #[.val (.int p0), .val (.int p1), .val (.int (4 : Int32)), .unset, .unset, .unset, .unset, .unset] [(.int (2147483647 : Int32)), (.int p1)])) _
    refine XS.iand X0.here hx rfl (hb hby at_10) rfl ?_
    show Steps p.tables e below (s₁.setTop (mkF m 11 #[.val (.int p0), .val (.int p1), .val (.int (4 : Int32)), .unset, .unset, .unset, .unset, .unset] [(.int (p1 &&& (2147483647 : Int32)))])) _
    refine XS.iconst X0.here hx rfl (hb hby at_11) ?_
    show Steps p.tables e below (s₁.setTop (mkF m 12 #[.val (.int p0), .val (.int p1), .val (.int (4 : Int32)), .unset, .unset, .unset, .unset, .unset] [(.int (5 : Int32)), (.int (p1 &&& (2147483647 : Int32)))])) _
    refine iremM X0 hx rfl (hb hby at_12) rfl (by decide) ?_
    show Steps p.tables e below (s₁.setTop (mkF m 13 #[.val (.int p0), .val (.int p1), .val (.int (4 : Int32)), .unset, .unset, .unset, .unset, .unset] [(.int ((p1 &&& (2147483647 : Int32)) % (5 : Int32)))])) _
    rw [hk1]
    show Steps p.tables e below (s₁.setTop (mkF m 13 #[.val (.int p0), .val (.int p1), .val (.int (4 : Int32)), .unset, .unset, .unset, .unset, .unset] [(.int (0 : Int32))])) _
    refine XS.istoreN X0.here hx rfl (hb hby at_13) rfl (l' := #[.val (.int p0), .val (.int p1), .val (.int (4 : Int32)), .val (.int (0 : Int32)), .unset, .unset, .unset, .unset]) rfl ?_
    show Steps p.tables e below (s₁.setTop (mkF m 14 #[.val (.int p0), .val (.int p1), .val (.int (4 : Int32)), .val (.int (0 : Int32)), .unset, .unset, .unset, .unset] [])) _
    refine XS.iloadN X0.here hx rfl (hb hby at_14) rfl ?_
    show Steps p.tables e below (s₁.setTop (mkF m 15 #[.val (.int p0), .val (.int p1), .val (.int (4 : Int32)), .val (.int (0 : Int32)), .unset, .unset, .unset, .unset] [(.int (4 : Int32))])) _
    refine st1 _ ?_
    show Steps p.tables e below (T1.setTop (mkF m 18 #[.val (.int p0), .val (.int p1), .val (.int (4 : Int32)), .val (.int (0 : Int32)), .unset, .unset, .unset, .unset] [(.ref a_ABORT)])) _
    refine XS.astore X1.here hx rfl (hb hby at_18) rfl rfl (l' := #[.val (.int p0), .val (.int p1), .val (.int (4 : Int32)), .val (.int (0 : Int32)), .val (.ref a_ABORT), .unset, .unset, .unset]) rfl ?_
    show Steps p.tables e below (T1.setTop (mkF m 20 #[.val (.int p0), .val (.int p1), .val (.int (4 : Int32)), .val (.int (0 : Int32)), .val (.ref a_ABORT), .unset, .unset, .unset] [])) _
    refine XS.iloadN X1.here hx rfl (hb hby at_20) rfl ?_
    show Steps p.tables e below (T1.setTop (mkF m 21 #[.val (.int p0), .val (.int p1), .val (.int (4 : Int32)), .val (.int (0 : Int32)), .val (.ref a_ABORT), .unset, .unset, .unset] [(.int (0 : Int32))])) _
    refine st2 _ ?_
    show Steps p.tables e below (T2.setTop (mkF m 24 #[.val (.int p0), .val (.int p1), .val (.int (4 : Int32)), .val (.int (0 : Int32)), .val (.ref a_ABORT), .unset, .unset, .unset] [(.ref a_READ)])) _
    refine XS.astore X2.here hx rfl (hb hby at_24) rfl rfl (l' := #[.val (.int p0), .val (.int p1), .val (.int (4 : Int32)), .val (.int (0 : Int32)), .val (.ref a_ABORT), .val (.ref a_READ), .unset, .unset]) rfl ?_
    show Steps p.tables e below (T2.setTop (mkF m 26 #[.val (.int p0), .val (.int p1), .val (.int (4 : Int32)), .val (.int (0 : Int32)), .val (.ref a_ABORT), .val (.ref a_READ), .unset, .unset] [])) _
    refine st3 _ ?_
    show Steps p.tables e below (T3.setTop (mkF m 151 #[.val (.int p0), .val (.int p1), .val (.int (4 : Int32)), .val (.int (0 : Int32)), .val (.ref a_ABORT), .val (.ref a_READ), .val (.ref b3), .unset] [])) _
    refine XS.aload X3.here hx rfl (hb hby at_151) rfl rfl ?_
    show Steps p.tables e below (T3.setTop (mkF m 153 #[.val (.int p0), .val (.int p1), .val (.int (4 : Int32)), .val (.int (0 : Int32)), .val (.ref a_ABORT), .val (.ref a_READ), .val (.ref b3), .unset] [(.ref b3)])) _
    refine XS.iloadN X3.here hx rfl (hb hby at_153) rfl ?_
    show Steps p.tables e below (T3.setTop (mkF m 154 #[.val (.int p0), .val (.int p1), .val (.int (4 : Int32)), .val (.int (0 : Int32)), .val (.ref a_ABORT), .val (.ref a_READ), .val (.ref b3), .unset] [(.int (4 : Int32)), (.ref b3)])) _
    refine XS.iconst X3.here hx rfl (hb hby at_154) ?_
    show Steps p.tables e below (T3.setTop (mkF m 155 #[.val (.int p0), .val (.int p1), .val (.int (4 : Int32)), .val (.int (0 : Int32)), .val (.ref a_ABORT), .val (.ref a_READ), .val (.ref b3), .unset] [(.int (5 : Int32)), (.int (4 : Int32)), (.ref b3)])) _
    refine XS.imul X3.here hx rfl (hb hby at_155) rfl ?_
    show Steps p.tables e below (T3.setTop (mkF m 156 #[.val (.int p0), .val (.int p1), .val (.int (4 : Int32)), .val (.int (0 : Int32)), .val (.ref a_ABORT), .val (.ref a_READ), .val (.ref b3), .unset] [(.int ((4 : Int32) * (5 : Int32))), (.ref b3)])) _
    rw [(by decide : ((4 : Int32) * (5 : Int32)) = (20 : Int32))]
    show Steps p.tables e below (T3.setTop (mkF m 156 #[.val (.int p0), .val (.int p1), .val (.int (4 : Int32)), .val (.int (0 : Int32)), .val (.ref a_ABORT), .val (.ref a_READ), .val (.ref b3), .unset] [(.int (20 : Int32)), (.ref b3)])) _
    refine XS.iloadN X3.here hx rfl (hb hby at_156) rfl ?_
    show Steps p.tables e below (T3.setTop (mkF m 157 #[.val (.int p0), .val (.int p1), .val (.int (4 : Int32)), .val (.int (0 : Int32)), .val (.ref a_ABORT), .val (.ref a_READ), .val (.ref b3), .unset] [(.int (0 : Int32)), (.int (20 : Int32)), (.ref b3)])) _
    refine XS.iadd X3.here hx rfl (hb hby at_157) rfl ?_
    show Steps p.tables e below (T3.setTop (mkF m 158 #[.val (.int p0), .val (.int p1), .val (.int (4 : Int32)), .val (.int (0 : Int32)), .val (.ref a_ABORT), .val (.ref a_READ), .val (.ref b3), .unset] [(.int ((20 : Int32) + (0 : Int32))), (.ref b3)])) _
    rw [(by decide : ((20 : Int32) + (0 : Int32)) = (20 : Int32))]
    show Steps p.tables e below (T3.setTop (mkF m 158 #[.val (.int p0), .val (.int p1), .val (.int (4 : Int32)), .val (.int (0 : Int32)), .val (.ref a_ABORT), .val (.ref a_READ), .val (.ref b3), .unset] [(.int (20 : Int32)), (.ref b3)])) _
    refine X3.baloadBooleans hx (j := (20 : Int32)) (v := (.int (0 : Int32))) (by rw [e3]; exact r4.1) (State.isArrayOf_alike hZ.alike r4.2.1) r4.2.2 i4 y4 (g := (mkF m 158 #[.val (.int p0), .val (.int p1), .val (.int (4 : Int32)), .val (.int (0 : Int32)), .val (.ref a_ABORT), .val (.ref a_READ), .val (.ref b3), .unset] [(.int (20 : Int32)), (.ref b3)])) rfl rfl (hb hby at_158) _ ?_
    show Steps p.tables e below (T3.setTop (mkF m 159 #[.val (.int p0), .val (.int p1), .val (.int (4 : Int32)), .val (.int (0 : Int32)), .val (.ref a_ABORT), .val (.ref a_READ), .val (.ref b3), .unset] [(.int (0 : Int32))])) _
    refine XS.istore X3.here hx rfl (hb hby at_159) rfl (l' := #[.val (.int p0), .val (.int p1), .val (.int (4 : Int32)), .val (.int (0 : Int32)), .val (.ref a_ABORT), .val (.ref a_READ), .val (.ref b3), .val (.int (0 : Int32))]) rfl ?_
    show Steps p.tables e below (T3.setTop (mkF m 161 #[.val (.int p0), .val (.int p1), .val (.int (4 : Int32)), .val (.int (0 : Int32)), .val (.ref a_ABORT), .val (.ref a_READ), .val (.ref b3), .val (.int (0 : Int32))] [])) _
    refine XS.aload X3.here hx rfl (hb hby at_161) rfl rfl ?_
    show Steps p.tables e below (T3.setTop (mkF m 163 #[.val (.int p0), .val (.int p1), .val (.int (4 : Int32)), .val (.int (0 : Int32)), .val (.ref a_ABORT), .val (.ref a_READ), .val (.ref b3), .val (.int (0 : Int32))] [(.ref a_ABORT)])) _
    refine XS.aload X3.here hx rfl (hb hby at_163) rfl rfl ?_
    show Steps p.tables e below (T3.setTop (mkF m 165 #[.val (.int p0), .val (.int p1), .val (.int (4 : Int32)), .val (.int (0 : Int32)), .val (.ref a_ABORT), .val (.ref a_READ), .val (.ref b3), .val (.int (0 : Int32))] [(.ref a_READ), (.ref a_ABORT)])) _
    refine st5.trans ?_
    show Steps p.tables e below (T5.setTop (mkF m 168 #[.val (.int p0), .val (.int p1), .val (.int (4 : Int32)), .val (.int (0 : Int32)), .val (.ref a_ABORT), .val (.ref a_READ), .val (.ref b3), .val (.int (0 : Int32))] [(.int (0 : Int32))])) _
    refine XS.iload X5.here hx rfl (hb hby at_168) rfl ?_
    show Steps p.tables e below (T5.setTop (mkF m 170 #[.val (.int p0), .val (.int p1), .val (.int (4 : Int32)), .val (.int (0 : Int32)), .val (.ref a_ABORT), .val (.ref a_READ), .val (.ref b3), .val (.int (0 : Int32))] [(.int (0 : Int32)), (.int (0 : Int32))])) _
    refine XS.icmpNo X5.here hx rfl (hb hby at_170) rfl (by decide) ?_
    show Steps p.tables e below (T5.setTop (mkF m 173 #[.val (.int p0), .val (.int p1), .val (.int (4 : Int32)), .val (.int (0 : Int32)), .val (.ref a_ABORT), .val (.ref a_READ), .val (.ref b3), .val (.int (0 : Int32))] [])) _
    refine XS.iconst X5.here hx rfl (hb hby at_173) ?_
    show Steps p.tables e below (T5.setTop (mkF m 174 #[.val (.int p0), .val (.int p1), .val (.int (4 : Int32)), .val (.int (0 : Int32)), .val (.ref a_ABORT), .val (.ref a_READ), .val (.ref b3), .val (.int (0 : Int32))] [(.int (1 : Int32))])) _
    refine XS.goto X5.here hx rfl (pc0 := 174) (pc' := 178) rfl (hb hby at_174) (by decide) (by decide) ?_
    show Steps p.tables e below (T5.setTop (mkF m 178 #[.val (.int p0), .val (.int p1), .val (.int (4 : Int32)), .val (.int (0 : Int32)), .val (.ref a_ABORT), .val (.ref a_READ), .val (.ref b3), .val (.int (0 : Int32))] [(.int (1 : Int32))])) _
    exact retN X5 hx (t := .boolean) Bd.returns (by simp) (hb hby at_178) hr
  · exact ⟨rfl, N5⟩
set_option maxRecDepth 65536 in
set_option maxHeartbeats 40000000 in
theorem rm2_21 (l : Launch) (Z : State) (a0 : Array Value) (hw : ∀ d ∈ tables_1, d.before a0 Z = true) (ws : List Jvm.Cond) (p0 p1 : Int32) (a_READ a_COMMIT a_ABORT a_WRITE a_INCREMENT : Addr) (h0 : Heap) (n0 : Nat) (Z0 : n0 ≤ h0.size) (FF : Facts Z h0 a_READ a_COMMIT a_ABORT a_WRITE a_INCREMENT) :
    MetFree l (⟨"com/example/schedulock/schedulock/schedule/OperationKind", "conflictsWith", "(Lcom/example/schedulock/schedulock/schedule/OperationKind;)Z"⟩ : MethodName) (head1 (Jvm.Cond.code (⟨"com/example/schedulock/schedulock/schedule/OperationKind", "conflictsWith", "(Lcom/example/schedulock/schedulock/schedule/OperationKind;)Z"⟩ : MethodName) prog_31_method_5_code 2 (some .boolean) :: ws) ({ frames := 0, cells := 0, slots := 0, locals := 0 } : Room)) (fun a U => a = #[(.ref a_ABORT), (.ref a_WRITE)] ∧ Z.Warmed39 U.vm ∧ U.heap = h0) (fun _ _ _ _ _ => True) (fun _ U o U' => ∃ v L, o = .returned v ∧ own_Q (.int (0 : Int32)) h0 n0 v U'.heap L ∧ FrameEnd U o U' L ({ frames := 0, cells := 0, slots := 0, locals := 0 } : Room).cells ({ frames := 0, cells := 0, slots := 0, locals := 0 } : Room).slots) := by
  refine MetFree.of_bodySF (plainFor_of_name pn_2) hisR ?_
  intro p e s m args below meth c s₁ Bd hml0 hP hK
  obtain ⟨rfl, hZ, hh⟩ := hP
  have hx := Bd.exec
  have hby := Bd.bytes
  have hml : c.maxLocals = 2 := hml0
  have hown : s.vm.findClass "com/example/schedulock/schedulock/schedule/OperationKind" = some m.cls := findClass_of_methodNamed Bd.named
  have X0 : Stand p l e ({ frames := 0, cells := 0, slots := 0, locals := 0 } : Room) s m #[(.ref a_ABORT), (.ref a_WRITE)] below meth c s₁ [] 0 0 := Stand.of_body Bd
  have e0 : s₁.heap = h0 := by rw [← hh, Bd.state]; rfl
  have N0 := Fr.nil n0
  have pre0 : ∀ t, Steps p.tables e below (s₁.setTop (mkF m 0 #[.val (.ref a_ABORT), .val (.ref a_WRITE)] [])) t → Steps p.tables e below (s₁.setTop (entryFrame m #[(.ref a_ABORT), (.ref a_WRITE)] 2)) t := fun t k => castTop (ef_2 m a_ABORT a_WRITE) k
  obtain ⟨T1, X1, e1, st1⟩ := getF X0 hx hZ hown (host := "") (Or.inl (hw _ (List.mem_of_getElem? (i := 16) rfl))) Via.refl e0 (fx_F_ABORT_takesItem FF) (g := (mkF m 1 #[.val (.ref a_ABORT), .val (.ref a_WRITE)] [(.ref a_ABORT)])) rfl rfl (hb hby d2_1)
  obtain ⟨fs, hr, hrun, hended, hW, hsame⟩ := X1.leave (v := some (.int (0 : Int32))) (fun h => by rw [Bd.returns] at h; cases h)
  refine ⟨_, _, pre0 _ ?_, hrun, hended, _, _, rfl, ?_, ⟨_, rfl⟩, hW, hsame.mono (by decide) (by decide)⟩
  · show Steps p.tables e below (s₁.setTop (mkF m 0 #[.val (.ref a_ABORT), .val (.ref a_WRITE)] [])) _
    refine XS.aloadN X0.here hx rfl (hb hby d2_0) rfl rfl ?_
    show Steps p.tables e below (s₁.setTop (mkF m 1 #[.val (.ref a_ABORT), .val (.ref a_WRITE)] [(.ref a_ABORT)])) _
    refine st1 _ ?_
    show Steps p.tables e below (T1.setTop (mkF m 4 #[.val (.ref a_ABORT), .val (.ref a_WRITE)] [(.int (0 : Int32))])) _
    refine XS.ifYes X1.here hx rfl (pc0 := 4) (pc' := 30) rfl (hb hby d2_4) rfl (by decide) (by decide) (by decide) ?_
    show Steps p.tables e below (T1.setTop (mkF m 30 #[.val (.ref a_ABORT), .val (.ref a_WRITE)] [])) _
    refine XS.iconst X1.here hx rfl (hb hby d2_30) ?_
    show Steps p.tables e below (T1.setTop (mkF m 31 #[.val (.ref a_ABORT), .val (.ref a_WRITE)] [(.int (0 : Int32))])) _
    exact retN X1 hx (t := .boolean) Bd.returns (by simp) (hb hby d2_31) hr
  · show own_Q _ _ _ _ T1.heap _
    exact ⟨rfl, N0, e1⟩
set_option maxRecDepth 65536 in
set_option maxHeartbeats 40000000 in
theorem rm0_21 (l : Launch) (Z : State) (a0 : Array Value) (hw : ∀ d ∈ tables_1, d.before a0 Z = true) (ws : List Jvm.Cond) (p0 p1 : Int32) (a_READ a_COMMIT a_ABORT a_WRITE a_INCREMENT : Addr) (h0 : Heap) (n0 : Nat) (Z0 : n0 ≤ h0.size) (FF : Facts Z h0 a_READ a_COMMIT a_ABORT a_WRITE a_INCREMENT) (hk0 : ((p0 &&& (2147483647 : Int32)) % (5 : Int32)) = (4 : Int32)) (hk1 : ((p1 &&& (2147483647 : Int32)) % (5 : Int32)) = (1 : Int32)) :
    MetFree l x (head1 (Jvm.Cond.code x code maxLocals ret :: ws) room_1) (fun a U => a = #[(.int p0), (.int p1)] ∧ Z.Warmed39 U.vm ∧ U.heap = h0) (fun _ _ _ _ _ => True) (fun _ U o U' => ∃ v L, o = .returned v ∧ (v = some (.int (1 : Int32)) ∧ Fr n0 L) ∧ FrameEnd U o U' L room_1.cells room_1.slots) := by
  refine MetFree.of_bodySF (plainFor_of_name pn_0) hisR ?_
  intro p e s m args below meth c s₁ Bd hml0 hP hK
  obtain ⟨rfl, hZ, hh⟩ := hP
  have hx := Bd.exec
  have hby := Bd.bytes
  have hml : c.maxLocals = 8 := hml0
  have hown : s.vm.findClass "com/example/schedulock/schedulock/schedule/OperationKindConflictsWithPinLaw" = some m.cls := findClass_of_methodNamed Bd.named
  have X0 : Stand p l e room_1 s m #[(.int p0), (.int p1)] below meth c s₁ [] 0 0 := Stand.of_body Bd
  have e0 : s₁.heap = h0 := by rw [← hh, Bd.state]; rfl
  have N0 := Fr.nil n0
  have pre0 : ∀ t, Steps p.tables e below (s₁.setTop (mkF m 0 #[.val (.int p0), .val (.int p1), .unset, .unset, .unset, .unset, .unset, .unset] [])) t → Steps p.tables e below (s₁.setTop (entryFrame m #[(.int p0), (.int p1)] maxLocals)) t := fun t k => castTop (ef_0 m p0 p1) k
  obtain ⟨_, _, ⟨T1, L1, k1, n1⟩, -, X1, ⟨Lc1, hQ1, l1, y1, z1⟩, st1⟩ := Jvm.LawKit.callS X0 hx (y := (⟨"com/example/schedulock/schedulock/schedule/OperationKindConflictsWithPinLaw", "kind", "(I)Lcom/example/schedulock/schedulock/schedule/OperationKind;"⟩ : MethodName)) hown (mvT hZ (hw _ (List.mem_of_getElem? (i := 1) rfl))) (mvT hZ (hw _ (List.mem_of_getElem? (i := 2) rfl))) (mvT hZ (hw _ (List.mem_of_getElem? (i := 3) rfl))) (mvT hZ (hw _ (List.mem_of_getElem? (i := 4) rfl))) (by decide) (backOf (W := 0) (rm1_4 l Z a0 hw [] p0 p1 a_READ a_COMMIT a_ABORT a_WRITE a_INCREMENT h0 n0 (Nat.le_trans Z0 (Nat.le_refl _)) FF) hZ (hw _ (List.mem_of_getElem? (i := 4) rfl)) (hw _ (List.mem_of_getElem? (i := 3) rfl)) (by decide) (by decide)) (g := (mkF m 15 #[.val (.int p0), .val (.int p1), .val (.int (4 : Int32)), .val (.int (1 : Int32)), .unset, .unset, .unset, .unset] [(.int (4 : Int32))])) rfl (by rw [hml]; rfl) (argsL := [(.int (4 : Int32))]) (rest := []) (lenOf pd_0 rfl) rfl (by show 2 * 0 + _ ≤ _; exact Nat.le_of_eq rfl) (hb hby at_15) (fun _ _ => ⟨rfl, e0, (by decide : 0 + 0 ≤ _), (by decide : 0 + 0 ≤ _)⟩)
  dsimp only [Pt.U, Pt.locs, Pt.cells, Pt.slots] at X1 l1 y1 z1 st1 hQ1
  subst l1 y1 z1
  obtain ⟨rfl, N1q, e1⟩ := hQ1
  have N1 := Fr.app N0 N1q
  obtain ⟨_, _, ⟨T2, L2, k2, n2⟩, -, X2, ⟨Lc2, hQ2, l2, y2, z2⟩, st2⟩ := Jvm.LawKit.callS X1 hx (y := (⟨"com/example/schedulock/schedulock/schedule/OperationKindConflictsWithPinLaw", "kind", "(I)Lcom/example/schedulock/schedulock/schedule/OperationKind;"⟩ : MethodName)) hown (mvT hZ (hw _ (List.mem_of_getElem? (i := 1) rfl))) (mvT hZ (hw _ (List.mem_of_getElem? (i := 2) rfl))) (mvT hZ (hw _ (List.mem_of_getElem? (i := 3) rfl))) (mvT hZ (hw _ (List.mem_of_getElem? (i := 4) rfl))) (by decide) (backOf (W := 0) (rm1_1 l Z a0 hw [] p0 p1 a_READ a_COMMIT a_ABORT a_WRITE a_INCREMENT h0 n0 (Nat.le_trans Z0 (Nat.le_refl _)) FF) hZ (hw _ (List.mem_of_getElem? (i := 4) rfl)) (hw _ (List.mem_of_getElem? (i := 3) rfl)) (by decide) (by decide)) (g := (mkF m 21 #[.val (.int p0), .val (.int p1), .val (.int (4 : Int32)), .val (.int (1 : Int32)), .val (.ref a_ABORT), .unset, .unset, .unset] [(.int (1 : Int32))])) rfl (by rw [hml]; rfl) (argsL := [(.int (1 : Int32))]) (rest := []) (lenOf pd_0 rfl) rfl (by show 2 * 0 + _ ≤ _; exact Nat.le_of_eq rfl) (hb hby at_21) (fun _ _ => ⟨rfl, e1, (by decide : 0 + 0 ≤ _), (by decide : 0 + 0 ≤ _)⟩)
  dsimp only [Pt.U, Pt.locs, Pt.cells, Pt.slots] at X2 l2 y2 z2 st2 hQ2
  subst l2 y2 z2
  obtain ⟨rfl, N2q, e2⟩ := hQ2
  have N2 := Fr.app N1 N2q
  obtain ⟨T3, h3, b3, k3, lc3, X3, e3, s_b3, z3, N3, FF3, V3, st3⟩ := seg_0 (l := l) (Z := Z) hw a_READ a_COMMIT a_ABORT a_WRITE a_INCREMENT p0 p1 (4 : Int32) (1 : Int32) a_ABORT a_WRITE X2 hx hZ hby hml hown e2 Z0 N2 FF
  obtain ⟨c4, r4, -, S4, -, H4, -⟩ := V3
  have i4 : ¬ ((21 : Int32) < 0 ∨ c4.slots.size ≤ ((21 : Int32)).toNatClampNeg) := inb_of S4 ⟨by decide, by decide⟩
  have y4 : c4.slots[((21 : Int32)).toNatClampNeg]? = some (.int (0 : Int32)) := H4 21 (by rw [S4]; decide)
  obtain ⟨cq5, kq5, q5a, q5b, q5c⟩ := isOf hZ e3 (fx_E_ABORT FF3)
  obtain ⟨_, _, ⟨T5, L5, k5, n5⟩, -, X5, ⟨Lc5, hQ5, l5, y5, z5⟩, st5⟩ := X3.virtualBack hx (y := (⟨"com/example/schedulock/schedulock/schedule/OperationKind", "conflictsWith", "(Lcom/example/schedulock/schedulock/schedule/OperationKind;)Z"⟩ : MethodName)) (z := (⟨"com/example/schedulock/schedulock/schedule/OperationKind", "conflictsWith", "(Lcom/example/schedulock/schedulock/schedule/OperationKind;)Z"⟩ : MethodName)) hown (mvT hZ (hw _ (List.mem_of_getElem? (i := 11) rfl))) (mvT hZ (hw _ (List.mem_of_getElem? (i := 12) rfl))) (notFace_of_selects (args := #[]) (mvT hZ (hw _ (List.mem_of_getElem? (i := 14) rfl)))) (mvT hZ (hw _ (List.mem_of_getElem? (i := 14) rfl))) (mvT hZ (hw _ (List.mem_of_getElem? (i := 13) rfl))) (by decide) (backOf (W := 0) (rm2_21 l Z a0 hw [] p0 p1 a_READ a_COMMIT a_ABORT a_WRITE a_INCREMENT h3 n0 (Nat.le_trans Z0 z3) FF3) hZ (hw _ (List.mem_of_getElem? (i := 15) rfl)) (hw _ (List.mem_of_getElem? (i := 6) rfl)) (by decide) (by decide)) q5a q5c (g := (mkF m 165 #[.val (.int p0), .val (.int p1), .val (.int (4 : Int32)), .val (.int (1 : Int32)), .val (.ref a_ABORT), .val (.ref a_WRITE), .val (.ref b3), .val (.int (0 : Int32))] [(.ref a_WRITE), (.ref a_ABORT)])) rfl (by rw [hml]; rfl) (Steps.refl _) (argsL := [(.ref a_WRITE)]) (rest := []) (lenOf pd_1 rfl) rfl (by show 2 * 0 + _ ≤ _; exact Nat.le_of_eq rfl) (hb hby at_165) (fun _ _ => ⟨rfl, e3, (by decide : 1 + 0 ≤ _), (by decide : 25 + 0 ≤ _)⟩)
  dsimp only [Pt.U, Pt.locs, Pt.cells, Pt.slots] at X5 l5 y5 z5 st5 hQ5
  subst l5 y5 z5
  obtain ⟨rfl, N5q, e5⟩ := hQ5
  have N5 := Fr.app N3 N5q
  obtain ⟨fs, hr, hrun, hended, hW, hsame⟩ := X5.leave (v := some (.int (1 : Int32))) (fun h => by rw [Bd.returns] at h; cases h)
  refine ⟨_, _, pre0 _ ?_, hrun, hended, _, _, rfl, ?_, ⟨_, rfl⟩, hW, hsame.mono (by decide) (by decide)⟩
  · show Steps p.tables e below (s₁.setTop (mkF m 0 #[.val (.int p0), .val (.int p1), .unset, .unset, .unset, .unset, .unset, .unset] [])) _
    refine XS.iloadN X0.here hx rfl (hb hby at_0) rfl ?_
    show Steps p.tables e below (s₁.setTop (mkF m 1 #[.val (.int p0), .val (.int p1), .unset, .unset, .unset, .unset, .unset, .unset] [(.int p0)])) _
    refine X0.ldcInt hx hown (mvT hZ (hw _ (List.mem_of_getElem? (i := 0) rfl))) (g := (mkF m 1 #[.val (.int p0), .val (.int p1), .unset, .unset, .unset, .unset, .unset, .unset] [(.int p0)])) rfl (hb hby at_1) _ ?_
    show Steps p.tables e below (s₁.setTop (mkF m 3 #[.val (.int p0), .val (.int p1), .unset, .unset, .unset, .unset, .unset, .unset] [(.int (2147483647 : Int32)), (.int p0)])) _
    refine XS.iand X0.here hx rfl (hb hby at_3) rfl ?_
    show Steps p.tables e below (s₁.setTop (mkF m 4 #[.val (.int p0), .val (.int p1), .unset, .unset, .unset, .unset, .unset, .unset] [(.int (p0 &&& (2147483647 : Int32)))])) _
    refine XS.iconst X0.here hx rfl (hb hby at_4) ?_
    show Steps p.tables e below (s₁.setTop (mkF m 5 #[.val (.int p0), .val (.int p1), .unset, .unset, .unset, .unset, .unset, .unset] [(.int (5 : Int32)), (.int (p0 &&& (2147483647 : Int32)))])) _
    refine iremM X0 hx rfl (hb hby at_5) rfl (by decide) ?_
    show Steps p.tables e below (s₁.setTop (mkF m 6 #[.val (.int p0), .val (.int p1), .unset, .unset, .unset, .unset, .unset, .unset] [(.int ((p0 &&& (2147483647 : Int32)) % (5 : Int32)))])) _
    rw [hk0]
    show Steps p.tables e below (s₁.setTop (mkF m 6 #[.val (.int p0), .val (.int p1), .unset, .unset, .unset, .unset, .unset, .unset] [(.int (4 : Int32))])) _
    refine XS.istoreN X0.here hx rfl (hb hby at_6) rfl (l' := #[.val (.int p0), .val (.int p1), .val (.int (4 : Int32)), .unset, .unset, .unset, .unset, .unset]) rfl ?_
    show Steps p.tables e below (s₁.setTop (mkF m 7 #[.val (.int p0), .val (.int p1), .val (.int (4 : Int32)), .unset, .unset, .unset, .unset, .unset] [])) _
    refine XS.iloadN X0.here hx rfl (hb hby at_7) rfl ?_
    show Steps p.tables e below (s₁.setTop (mkF m 8 #[.val (.int p0), .val (.int p1), .val (.int (4 : Int32)), .unset, .unset, .unset, .unset, .unset] [(.int p1)])) _
    refine X0.ldcInt hx hown (mvT hZ (hw _ (List.mem_of_getElem? (i := 0) rfl))) (g := (mkF m 8 #[.val (.int p0), .val (.int p1), .val (.int (4 : Int32)), .unset, .unset, .unset, .unset, .unset] [(.int p1)])) rfl (hb hby at_8) _ ?_
    show Steps p.tables e below (s₁.setTop (mkF m 10 #[.val (.int p0), .val (.int p1), .val (.int (4 : Int32)), .unset, .unset, .unset, .unset, .unset] [(.int (2147483647 : Int32)), (.int p1)])) _
    refine XS.iand X0.here hx rfl (hb hby at_10) rfl ?_
    show Steps p.tables e below (s₁.setTop (mkF m 11 #[.val (.int p0), .val (.int p1), .val (.int (4 : Int32)), .unset, .unset, .unset, .unset, .unset] [(.int (p1 &&& (2147483647 : Int32)))])) _
    refine XS.iconst X0.here hx rfl (hb hby at_11) ?_
    show Steps p.tables e below (s₁.setTop (mkF m 12 #[.val (.int p0), .val (.int p1), .val (.int (4 : Int32)), .unset, .unset, .unset, .unset, .unset] [(.int (5 : Int32)), (.int (p1 &&& (2147483647 : Int32)))])) _
    refine iremM X0 hx rfl (hb hby at_12) rfl (by decide) ?_
    show Steps p.tables e below (s₁.setTop (mkF m 13 #[.val (.int p0), .val (.int p1), .val (.int (4 : Int32)), .unset, .unset, .unset, .unset, .unset] [(.int ((p1 &&& (2147483647 : Int32)) % (5 : Int32)))])) _
    rw [hk1]
    show Steps p.tables e below (s₁.setTop (mkF m 13 #[.val (.int p0), .val (.int p1), .val (.int (4 : Int32)), .unset, .unset, .unset, .unset, .unset] [(.int (1 : Int32))])) _
    refine XS.istoreN X0.here hx rfl (hb hby at_13) rfl (l' := #[.val (.int p0), .val (.int p1), .val (.int (4 : Int32)), .val (.int (1 : Int32)), .unset, .unset, .unset, .unset]) rfl ?_
    show Steps p.tables e below (s₁.setTop (mkF m 14 #[.val (.int p0), .val (.int p1), .val (.int (4 : Int32)), .val (.int (1 : Int32)), .unset, .unset, .unset, .unset] [])) _
    refine XS.iloadN X0.here hx rfl (hb hby at_14) rfl ?_
    show Steps p.tables e below (s₁.setTop (mkF m 15 #[.val (.int p0), .val (.int p1), .val (.int (4 : Int32)), .val (.int (1 : Int32)), .unset, .unset, .unset, .unset] [(.int (4 : Int32))])) _
    refine st1 _ ?_
    show Steps p.tables e below (T1.setTop (mkF m 18 #[.val (.int p0), .val (.int p1), .val (.int (4 : Int32)), .val (.int (1 : Int32)), .unset, .unset, .unset, .unset] [(.ref a_ABORT)])) _
    refine XS.astore X1.here hx rfl (hb hby at_18) rfl rfl (l' := #[.val (.int p0), .val (.int p1), .val (.int (4 : Int32)), .val (.int (1 : Int32)), .val (.ref a_ABORT), .unset, .unset, .unset]) rfl ?_
    show Steps p.tables e below (T1.setTop (mkF m 20 #[.val (.int p0), .val (.int p1), .val (.int (4 : Int32)), .val (.int (1 : Int32)), .val (.ref a_ABORT), .unset, .unset, .unset] [])) _
    refine XS.iloadN X1.here hx rfl (hb hby at_20) rfl ?_
    show Steps p.tables e below (T1.setTop (mkF m 21 #[.val (.int p0), .val (.int p1), .val (.int (4 : Int32)), .val (.int (1 : Int32)), .val (.ref a_ABORT), .unset, .unset, .unset] [(.int (1 : Int32))])) _
    refine st2 _ ?_
    show Steps p.tables e below (T2.setTop (mkF m 24 #[.val (.int p0), .val (.int p1), .val (.int (4 : Int32)), .val (.int (1 : Int32)), .val (.ref a_ABORT), .unset, .unset, .unset] [(.ref a_WRITE)])) _
    refine XS.astore X2.here hx rfl (hb hby at_24) rfl rfl (l' := #[.val (.int p0), .val (.int p1), .val (.int (4 : Int32)), .val (.int (1 : Int32)), .val (.ref a_ABORT), .val (.ref a_WRITE), .unset, .unset]) rfl ?_
    show Steps p.tables e below (T2.setTop (mkF m 26 #[.val (.int p0), .val (.int p1), .val (.int (4 : Int32)), .val (.int (1 : Int32)), .val (.ref a_ABORT), .val (.ref a_WRITE), .unset, .unset] [])) _
    refine st3 _ ?_
    show Steps p.tables e below (T3.setTop (mkF m 151 #[.val (.int p0), .val (.int p1), .val (.int (4 : Int32)), .val (.int (1 : Int32)), .val (.ref a_ABORT), .val (.ref a_WRITE), .val (.ref b3), .unset] [])) _
    refine XS.aload X3.here hx rfl (hb hby at_151) rfl rfl ?_
    show Steps p.tables e below (T3.setTop (mkF m 153 #[.val (.int p0), .val (.int p1), .val (.int (4 : Int32)), .val (.int (1 : Int32)), .val (.ref a_ABORT), .val (.ref a_WRITE), .val (.ref b3), .unset] [(.ref b3)])) _
    refine XS.iloadN X3.here hx rfl (hb hby at_153) rfl ?_
    show Steps p.tables e below (T3.setTop (mkF m 154 #[.val (.int p0), .val (.int p1), .val (.int (4 : Int32)), .val (.int (1 : Int32)), .val (.ref a_ABORT), .val (.ref a_WRITE), .val (.ref b3), .unset] [(.int (4 : Int32)), (.ref b3)])) _
    refine XS.iconst X3.here hx rfl (hb hby at_154) ?_
    show Steps p.tables e below (T3.setTop (mkF m 155 #[.val (.int p0), .val (.int p1), .val (.int (4 : Int32)), .val (.int (1 : Int32)), .val (.ref a_ABORT), .val (.ref a_WRITE), .val (.ref b3), .unset] [(.int (5 : Int32)), (.int (4 : Int32)), (.ref b3)])) _
    refine XS.imul X3.here hx rfl (hb hby at_155) rfl ?_
    show Steps p.tables e below (T3.setTop (mkF m 156 #[.val (.int p0), .val (.int p1), .val (.int (4 : Int32)), .val (.int (1 : Int32)), .val (.ref a_ABORT), .val (.ref a_WRITE), .val (.ref b3), .unset] [(.int ((4 : Int32) * (5 : Int32))), (.ref b3)])) _
    rw [(by decide : ((4 : Int32) * (5 : Int32)) = (20 : Int32))]
    show Steps p.tables e below (T3.setTop (mkF m 156 #[.val (.int p0), .val (.int p1), .val (.int (4 : Int32)), .val (.int (1 : Int32)), .val (.ref a_ABORT), .val (.ref a_WRITE), .val (.ref b3), .unset] [(.int (20 : Int32)), (.ref b3)])) _
    refine XS.iloadN X3.here hx rfl (hb hby at_156) rfl ?_
    show Steps p.tables e below (T3.setTop (mkF m 157 #[.val (.int p0), .val (.int p1), .val (.int (4 : Int32)), .val (.int (1 : Int32)), .val (.ref a_ABORT), .val (.ref a_WRITE), .val (.ref b3), .unset] [(.int (1 : Int32)), (.int (20 : Int32)), (.ref b3)])) _
    refine XS.iadd X3.here hx rfl (hb hby at_157) rfl ?_
    show Steps p.tables e below (T3.setTop (mkF m 158 #[.val (.int p0), .val (.int p1), .val (.int (4 : Int32)), .val (.int (1 : Int32)), .val (.ref a_ABORT), .val (.ref a_WRITE), .val (.ref b3), .unset] [(.int ((20 : Int32) + (1 : Int32))), (.ref b3)])) _
    rw [(by decide : ((20 : Int32) + (1 : Int32)) = (21 : Int32))]
    show Steps p.tables e below (T3.setTop (mkF m 158 #[.val (.int p0), .val (.int p1), .val (.int (4 : Int32)), .val (.int (1 : Int32)), .val (.ref a_ABORT), .val (.ref a_WRITE), .val (.ref b3), .unset] [(.int (21 : Int32)), (.ref b3)])) _
    refine X3.baloadBooleans hx (j := (21 : Int32)) (v := (.int (0 : Int32))) (by rw [e3]; exact r4.1) (State.isArrayOf_alike hZ.alike r4.2.1) r4.2.2 i4 y4 (g := (mkF m 158 #[.val (.int p0), .val (.int p1), .val (.int (4 : Int32)), .val (.int (1 : Int32)), .val (.ref a_ABORT), .val (.ref a_WRITE), .val (.ref b3), .unset] [(.int (21 : Int32)), (.ref b3)])) rfl rfl (hb hby at_158) _ ?_
    show Steps p.tables e below (T3.setTop (mkF m 159 #[.val (.int p0), .val (.int p1), .val (.int (4 : Int32)), .val (.int (1 : Int32)), .val (.ref a_ABORT), .val (.ref a_WRITE), .val (.ref b3), .unset] [(.int (0 : Int32))])) _
    refine XS.istore X3.here hx rfl (hb hby at_159) rfl (l' := #[.val (.int p0), .val (.int p1), .val (.int (4 : Int32)), .val (.int (1 : Int32)), .val (.ref a_ABORT), .val (.ref a_WRITE), .val (.ref b3), .val (.int (0 : Int32))]) rfl ?_
    show Steps p.tables e below (T3.setTop (mkF m 161 #[.val (.int p0), .val (.int p1), .val (.int (4 : Int32)), .val (.int (1 : Int32)), .val (.ref a_ABORT), .val (.ref a_WRITE), .val (.ref b3), .val (.int (0 : Int32))] [])) _
    refine XS.aload X3.here hx rfl (hb hby at_161) rfl rfl ?_
    show Steps p.tables e below (T3.setTop (mkF m 163 #[.val (.int p0), .val (.int p1), .val (.int (4 : Int32)), .val (.int (1 : Int32)), .val (.ref a_ABORT), .val (.ref a_WRITE), .val (.ref b3), .val (.int (0 : Int32))] [(.ref a_ABORT)])) _
    refine XS.aload X3.here hx rfl (hb hby at_163) rfl rfl ?_
    show Steps p.tables e below (T3.setTop (mkF m 165 #[.val (.int p0), .val (.int p1), .val (.int (4 : Int32)), .val (.int (1 : Int32)), .val (.ref a_ABORT), .val (.ref a_WRITE), .val (.ref b3), .val (.int (0 : Int32))] [(.ref a_WRITE), (.ref a_ABORT)])) _
    refine st5.trans ?_
    show Steps p.tables e below (T5.setTop (mkF m 168 #[.val (.int p0), .val (.int p1), .val (.int (4 : Int32)), .val (.int (1 : Int32)), .val (.ref a_ABORT), .val (.ref a_WRITE), .val (.ref b3), .val (.int (0 : Int32))] [(.int (0 : Int32))])) _
    refine XS.iload X5.here hx rfl (hb hby at_168) rfl ?_
    show Steps p.tables e below (T5.setTop (mkF m 170 #[.val (.int p0), .val (.int p1), .val (.int (4 : Int32)), .val (.int (1 : Int32)), .val (.ref a_ABORT), .val (.ref a_WRITE), .val (.ref b3), .val (.int (0 : Int32))] [(.int (0 : Int32)), (.int (0 : Int32))])) _
    refine XS.icmpNo X5.here hx rfl (hb hby at_170) rfl (by decide) ?_
    show Steps p.tables e below (T5.setTop (mkF m 173 #[.val (.int p0), .val (.int p1), .val (.int (4 : Int32)), .val (.int (1 : Int32)), .val (.ref a_ABORT), .val (.ref a_WRITE), .val (.ref b3), .val (.int (0 : Int32))] [])) _
    refine XS.iconst X5.here hx rfl (hb hby at_173) ?_
    show Steps p.tables e below (T5.setTop (mkF m 174 #[.val (.int p0), .val (.int p1), .val (.int (4 : Int32)), .val (.int (1 : Int32)), .val (.ref a_ABORT), .val (.ref a_WRITE), .val (.ref b3), .val (.int (0 : Int32))] [(.int (1 : Int32))])) _
    refine XS.goto X5.here hx rfl (pc0 := 174) (pc' := 178) rfl (hb hby at_174) (by decide) (by decide) ?_
    show Steps p.tables e below (T5.setTop (mkF m 178 #[.val (.int p0), .val (.int p1), .val (.int (4 : Int32)), .val (.int (1 : Int32)), .val (.ref a_ABORT), .val (.ref a_WRITE), .val (.ref b3), .val (.int (0 : Int32))] [(.int (1 : Int32))])) _
    exact retN X5 hx (t := .boolean) Bd.returns (by simp) (hb hby at_178) hr
  · exact ⟨rfl, N5⟩
set_option maxRecDepth 65536 in
set_option maxHeartbeats 40000000 in
theorem rm2_22 (l : Launch) (Z : State) (a0 : Array Value) (hw : ∀ d ∈ tables_1, d.before a0 Z = true) (ws : List Jvm.Cond) (p0 p1 : Int32) (a_READ a_COMMIT a_ABORT a_WRITE a_INCREMENT : Addr) (h0 : Heap) (n0 : Nat) (Z0 : n0 ≤ h0.size) (FF : Facts Z h0 a_READ a_COMMIT a_ABORT a_WRITE a_INCREMENT) :
    MetFree l (⟨"com/example/schedulock/schedulock/schedule/OperationKind", "conflictsWith", "(Lcom/example/schedulock/schedulock/schedule/OperationKind;)Z"⟩ : MethodName) (head1 (Jvm.Cond.code (⟨"com/example/schedulock/schedulock/schedule/OperationKind", "conflictsWith", "(Lcom/example/schedulock/schedulock/schedule/OperationKind;)Z"⟩ : MethodName) prog_31_method_5_code 2 (some .boolean) :: ws) ({ frames := 0, cells := 0, slots := 0, locals := 0 } : Room)) (fun a U => a = #[(.ref a_ABORT), (.ref a_INCREMENT)] ∧ Z.Warmed39 U.vm ∧ U.heap = h0) (fun _ _ _ _ _ => True) (fun _ U o U' => ∃ v L, o = .returned v ∧ own_Q (.int (0 : Int32)) h0 n0 v U'.heap L ∧ FrameEnd U o U' L ({ frames := 0, cells := 0, slots := 0, locals := 0 } : Room).cells ({ frames := 0, cells := 0, slots := 0, locals := 0 } : Room).slots) := by
  refine MetFree.of_bodySF (plainFor_of_name pn_2) hisR ?_
  intro p e s m args below meth c s₁ Bd hml0 hP hK
  obtain ⟨rfl, hZ, hh⟩ := hP
  have hx := Bd.exec
  have hby := Bd.bytes
  have hml : c.maxLocals = 2 := hml0
  have hown : s.vm.findClass "com/example/schedulock/schedulock/schedule/OperationKind" = some m.cls := findClass_of_methodNamed Bd.named
  have X0 : Stand p l e ({ frames := 0, cells := 0, slots := 0, locals := 0 } : Room) s m #[(.ref a_ABORT), (.ref a_INCREMENT)] below meth c s₁ [] 0 0 := Stand.of_body Bd
  have e0 : s₁.heap = h0 := by rw [← hh, Bd.state]; rfl
  have N0 := Fr.nil n0
  have pre0 : ∀ t, Steps p.tables e below (s₁.setTop (mkF m 0 #[.val (.ref a_ABORT), .val (.ref a_INCREMENT)] [])) t → Steps p.tables e below (s₁.setTop (entryFrame m #[(.ref a_ABORT), (.ref a_INCREMENT)] 2)) t := fun t k => castTop (ef_2 m a_ABORT a_INCREMENT) k
  obtain ⟨T1, X1, e1, st1⟩ := getF X0 hx hZ hown (host := "") (Or.inl (hw _ (List.mem_of_getElem? (i := 16) rfl))) Via.refl e0 (fx_F_ABORT_takesItem FF) (g := (mkF m 1 #[.val (.ref a_ABORT), .val (.ref a_INCREMENT)] [(.ref a_ABORT)])) rfl rfl (hb hby d2_1)
  obtain ⟨fs, hr, hrun, hended, hW, hsame⟩ := X1.leave (v := some (.int (0 : Int32))) (fun h => by rw [Bd.returns] at h; cases h)
  refine ⟨_, _, pre0 _ ?_, hrun, hended, _, _, rfl, ?_, ⟨_, rfl⟩, hW, hsame.mono (by decide) (by decide)⟩
  · show Steps p.tables e below (s₁.setTop (mkF m 0 #[.val (.ref a_ABORT), .val (.ref a_INCREMENT)] [])) _
    refine XS.aloadN X0.here hx rfl (hb hby d2_0) rfl rfl ?_
    show Steps p.tables e below (s₁.setTop (mkF m 1 #[.val (.ref a_ABORT), .val (.ref a_INCREMENT)] [(.ref a_ABORT)])) _
    refine st1 _ ?_
    show Steps p.tables e below (T1.setTop (mkF m 4 #[.val (.ref a_ABORT), .val (.ref a_INCREMENT)] [(.int (0 : Int32))])) _
    refine XS.ifYes X1.here hx rfl (pc0 := 4) (pc' := 30) rfl (hb hby d2_4) rfl (by decide) (by decide) (by decide) ?_
    show Steps p.tables e below (T1.setTop (mkF m 30 #[.val (.ref a_ABORT), .val (.ref a_INCREMENT)] [])) _
    refine XS.iconst X1.here hx rfl (hb hby d2_30) ?_
    show Steps p.tables e below (T1.setTop (mkF m 31 #[.val (.ref a_ABORT), .val (.ref a_INCREMENT)] [(.int (0 : Int32))])) _
    exact retN X1 hx (t := .boolean) Bd.returns (by simp) (hb hby d2_31) hr
  · show own_Q _ _ _ _ T1.heap _
    exact ⟨rfl, N0, e1⟩
set_option maxRecDepth 65536 in
set_option maxHeartbeats 40000000 in
theorem rm0_22 (l : Launch) (Z : State) (a0 : Array Value) (hw : ∀ d ∈ tables_1, d.before a0 Z = true) (ws : List Jvm.Cond) (p0 p1 : Int32) (a_READ a_COMMIT a_ABORT a_WRITE a_INCREMENT : Addr) (h0 : Heap) (n0 : Nat) (Z0 : n0 ≤ h0.size) (FF : Facts Z h0 a_READ a_COMMIT a_ABORT a_WRITE a_INCREMENT) (hk0 : ((p0 &&& (2147483647 : Int32)) % (5 : Int32)) = (4 : Int32)) (hk1 : ((p1 &&& (2147483647 : Int32)) % (5 : Int32)) = (2 : Int32)) :
    MetFree l x (head1 (Jvm.Cond.code x code maxLocals ret :: ws) room_1) (fun a U => a = #[(.int p0), (.int p1)] ∧ Z.Warmed39 U.vm ∧ U.heap = h0) (fun _ _ _ _ _ => True) (fun _ U o U' => ∃ v L, o = .returned v ∧ (v = some (.int (1 : Int32)) ∧ Fr n0 L) ∧ FrameEnd U o U' L room_1.cells room_1.slots) := by
  refine MetFree.of_bodySF (plainFor_of_name pn_0) hisR ?_
  intro p e s m args below meth c s₁ Bd hml0 hP hK
  obtain ⟨rfl, hZ, hh⟩ := hP
  have hx := Bd.exec
  have hby := Bd.bytes
  have hml : c.maxLocals = 8 := hml0
  have hown : s.vm.findClass "com/example/schedulock/schedulock/schedule/OperationKindConflictsWithPinLaw" = some m.cls := findClass_of_methodNamed Bd.named
  have X0 : Stand p l e room_1 s m #[(.int p0), (.int p1)] below meth c s₁ [] 0 0 := Stand.of_body Bd
  have e0 : s₁.heap = h0 := by rw [← hh, Bd.state]; rfl
  have N0 := Fr.nil n0
  have pre0 : ∀ t, Steps p.tables e below (s₁.setTop (mkF m 0 #[.val (.int p0), .val (.int p1), .unset, .unset, .unset, .unset, .unset, .unset] [])) t → Steps p.tables e below (s₁.setTop (entryFrame m #[(.int p0), (.int p1)] maxLocals)) t := fun t k => castTop (ef_0 m p0 p1) k
  obtain ⟨_, _, ⟨T1, L1, k1, n1⟩, -, X1, ⟨Lc1, hQ1, l1, y1, z1⟩, st1⟩ := Jvm.LawKit.callS X0 hx (y := (⟨"com/example/schedulock/schedulock/schedule/OperationKindConflictsWithPinLaw", "kind", "(I)Lcom/example/schedulock/schedulock/schedule/OperationKind;"⟩ : MethodName)) hown (mvT hZ (hw _ (List.mem_of_getElem? (i := 1) rfl))) (mvT hZ (hw _ (List.mem_of_getElem? (i := 2) rfl))) (mvT hZ (hw _ (List.mem_of_getElem? (i := 3) rfl))) (mvT hZ (hw _ (List.mem_of_getElem? (i := 4) rfl))) (by decide) (backOf (W := 0) (rm1_4 l Z a0 hw [] p0 p1 a_READ a_COMMIT a_ABORT a_WRITE a_INCREMENT h0 n0 (Nat.le_trans Z0 (Nat.le_refl _)) FF) hZ (hw _ (List.mem_of_getElem? (i := 4) rfl)) (hw _ (List.mem_of_getElem? (i := 3) rfl)) (by decide) (by decide)) (g := (mkF m 15 #[.val (.int p0), .val (.int p1), .val (.int (4 : Int32)), .val (.int (2 : Int32)), .unset, .unset, .unset, .unset] [(.int (4 : Int32))])) rfl (by rw [hml]; rfl) (argsL := [(.int (4 : Int32))]) (rest := []) (lenOf pd_0 rfl) rfl (by show 2 * 0 + _ ≤ _; exact Nat.le_of_eq rfl) (hb hby at_15) (fun _ _ => ⟨rfl, e0, (by decide : 0 + 0 ≤ _), (by decide : 0 + 0 ≤ _)⟩)
  dsimp only [Pt.U, Pt.locs, Pt.cells, Pt.slots] at X1 l1 y1 z1 st1 hQ1
  subst l1 y1 z1
  obtain ⟨rfl, N1q, e1⟩ := hQ1
  have N1 := Fr.app N0 N1q
  obtain ⟨_, _, ⟨T2, L2, k2, n2⟩, -, X2, ⟨Lc2, hQ2, l2, y2, z2⟩, st2⟩ := Jvm.LawKit.callS X1 hx (y := (⟨"com/example/schedulock/schedulock/schedule/OperationKindConflictsWithPinLaw", "kind", "(I)Lcom/example/schedulock/schedulock/schedule/OperationKind;"⟩ : MethodName)) hown (mvT hZ (hw _ (List.mem_of_getElem? (i := 1) rfl))) (mvT hZ (hw _ (List.mem_of_getElem? (i := 2) rfl))) (mvT hZ (hw _ (List.mem_of_getElem? (i := 3) rfl))) (mvT hZ (hw _ (List.mem_of_getElem? (i := 4) rfl))) (by decide) (backOf (W := 0) (rm1_2 l Z a0 hw [] p0 p1 a_READ a_COMMIT a_ABORT a_WRITE a_INCREMENT h0 n0 (Nat.le_trans Z0 (Nat.le_refl _)) FF) hZ (hw _ (List.mem_of_getElem? (i := 4) rfl)) (hw _ (List.mem_of_getElem? (i := 3) rfl)) (by decide) (by decide)) (g := (mkF m 21 #[.val (.int p0), .val (.int p1), .val (.int (4 : Int32)), .val (.int (2 : Int32)), .val (.ref a_ABORT), .unset, .unset, .unset] [(.int (2 : Int32))])) rfl (by rw [hml]; rfl) (argsL := [(.int (2 : Int32))]) (rest := []) (lenOf pd_0 rfl) rfl (by show 2 * 0 + _ ≤ _; exact Nat.le_of_eq rfl) (hb hby at_21) (fun _ _ => ⟨rfl, e1, (by decide : 0 + 0 ≤ _), (by decide : 0 + 0 ≤ _)⟩)
  dsimp only [Pt.U, Pt.locs, Pt.cells, Pt.slots] at X2 l2 y2 z2 st2 hQ2
  subst l2 y2 z2
  obtain ⟨rfl, N2q, e2⟩ := hQ2
  have N2 := Fr.app N1 N2q
  obtain ⟨T3, h3, b3, k3, lc3, X3, e3, s_b3, z3, N3, FF3, V3, st3⟩ := seg_0 (l := l) (Z := Z) hw a_READ a_COMMIT a_ABORT a_WRITE a_INCREMENT p0 p1 (4 : Int32) (2 : Int32) a_ABORT a_INCREMENT X2 hx hZ hby hml hown e2 Z0 N2 FF
  obtain ⟨c4, r4, -, S4, -, H4, -⟩ := V3
  have i4 : ¬ ((22 : Int32) < 0 ∨ c4.slots.size ≤ ((22 : Int32)).toNatClampNeg) := inb_of S4 ⟨by decide, by decide⟩
  have y4 : c4.slots[((22 : Int32)).toNatClampNeg]? = some (.int (0 : Int32)) := H4 22 (by rw [S4]; decide)
  obtain ⟨cq5, kq5, q5a, q5b, q5c⟩ := isOf hZ e3 (fx_E_ABORT FF3)
  obtain ⟨_, _, ⟨T5, L5, k5, n5⟩, -, X5, ⟨Lc5, hQ5, l5, y5, z5⟩, st5⟩ := X3.virtualBack hx (y := (⟨"com/example/schedulock/schedulock/schedule/OperationKind", "conflictsWith", "(Lcom/example/schedulock/schedulock/schedule/OperationKind;)Z"⟩ : MethodName)) (z := (⟨"com/example/schedulock/schedulock/schedule/OperationKind", "conflictsWith", "(Lcom/example/schedulock/schedulock/schedule/OperationKind;)Z"⟩ : MethodName)) hown (mvT hZ (hw _ (List.mem_of_getElem? (i := 11) rfl))) (mvT hZ (hw _ (List.mem_of_getElem? (i := 12) rfl))) (notFace_of_selects (args := #[]) (mvT hZ (hw _ (List.mem_of_getElem? (i := 14) rfl)))) (mvT hZ (hw _ (List.mem_of_getElem? (i := 14) rfl))) (mvT hZ (hw _ (List.mem_of_getElem? (i := 13) rfl))) (by decide) (backOf (W := 0) (rm2_22 l Z a0 hw [] p0 p1 a_READ a_COMMIT a_ABORT a_WRITE a_INCREMENT h3 n0 (Nat.le_trans Z0 z3) FF3) hZ (hw _ (List.mem_of_getElem? (i := 15) rfl)) (hw _ (List.mem_of_getElem? (i := 6) rfl)) (by decide) (by decide)) q5a q5c (g := (mkF m 165 #[.val (.int p0), .val (.int p1), .val (.int (4 : Int32)), .val (.int (2 : Int32)), .val (.ref a_ABORT), .val (.ref a_INCREMENT), .val (.ref b3), .val (.int (0 : Int32))] [(.ref a_INCREMENT), (.ref a_ABORT)])) rfl (by rw [hml]; rfl) (Steps.refl _) (argsL := [(.ref a_INCREMENT)]) (rest := []) (lenOf pd_1 rfl) rfl (by show 2 * 0 + _ ≤ _; exact Nat.le_of_eq rfl) (hb hby at_165) (fun _ _ => ⟨rfl, e3, (by decide : 1 + 0 ≤ _), (by decide : 25 + 0 ≤ _)⟩)
  dsimp only [Pt.U, Pt.locs, Pt.cells, Pt.slots] at X5 l5 y5 z5 st5 hQ5
  subst l5 y5 z5
  obtain ⟨rfl, N5q, e5⟩ := hQ5
  have N5 := Fr.app N3 N5q
  obtain ⟨fs, hr, hrun, hended, hW, hsame⟩ := X5.leave (v := some (.int (1 : Int32))) (fun h => by rw [Bd.returns] at h; cases h)
  refine ⟨_, _, pre0 _ ?_, hrun, hended, _, _, rfl, ?_, ⟨_, rfl⟩, hW, hsame.mono (by decide) (by decide)⟩
  · show Steps p.tables e below (s₁.setTop (mkF m 0 #[.val (.int p0), .val (.int p1), .unset, .unset, .unset, .unset, .unset, .unset] [])) _
    refine XS.iloadN X0.here hx rfl (hb hby at_0) rfl ?_
    show Steps p.tables e below (s₁.setTop (mkF m 1 #[.val (.int p0), .val (.int p1), .unset, .unset, .unset, .unset, .unset, .unset] [(.int p0)])) _
    refine X0.ldcInt hx hown (mvT hZ (hw _ (List.mem_of_getElem? (i := 0) rfl))) (g := (mkF m 1 #[.val (.int p0), .val (.int p1), .unset, .unset, .unset, .unset, .unset, .unset] [(.int p0)])) rfl (hb hby at_1) _ ?_
    show Steps p.tables e below (s₁.setTop (mkF m 3 #[.val (.int p0), .val (.int p1), .unset, .unset, .unset, .unset, .unset, .unset] [(.int (2147483647 : Int32)), (.int p0)])) _
    refine XS.iand X0.here hx rfl (hb hby at_3) rfl ?_
    show Steps p.tables e below (s₁.setTop (mkF m 4 #[.val (.int p0), .val (.int p1), .unset, .unset, .unset, .unset, .unset, .unset] [(.int (p0 &&& (2147483647 : Int32)))])) _
    refine XS.iconst X0.here hx rfl (hb hby at_4) ?_
    show Steps p.tables e below (s₁.setTop (mkF m 5 #[.val (.int p0), .val (.int p1), .unset, .unset, .unset, .unset, .unset, .unset] [(.int (5 : Int32)), (.int (p0 &&& (2147483647 : Int32)))])) _
    refine iremM X0 hx rfl (hb hby at_5) rfl (by decide) ?_
    show Steps p.tables e below (s₁.setTop (mkF m 6 #[.val (.int p0), .val (.int p1), .unset, .unset, .unset, .unset, .unset, .unset] [(.int ((p0 &&& (2147483647 : Int32)) % (5 : Int32)))])) _
    rw [hk0]
    show Steps p.tables e below (s₁.setTop (mkF m 6 #[.val (.int p0), .val (.int p1), .unset, .unset, .unset, .unset, .unset, .unset] [(.int (4 : Int32))])) _
    refine XS.istoreN X0.here hx rfl (hb hby at_6) rfl (l' := #[.val (.int p0), .val (.int p1), .val (.int (4 : Int32)), .unset, .unset, .unset, .unset, .unset]) rfl ?_
    show Steps p.tables e below (s₁.setTop (mkF m 7 #[.val (.int p0), .val (.int p1), .val (.int (4 : Int32)), .unset, .unset, .unset, .unset, .unset] [])) _
    refine XS.iloadN X0.here hx rfl (hb hby at_7) rfl ?_
    show Steps p.tables e below (s₁.setTop (mkF m 8 #[.val (.int p0), .val (.int p1), .val (.int (4 : Int32)), .unset, .unset, .unset, .unset, .unset] [(.int p1)])) _
    refine X0.ldcInt hx hown (mvT hZ (hw _ (List.mem_of_getElem? (i := 0) rfl))) (g := (mkF m 8 #[.val (.int p0), .val (.int p1), .val (.int (4 : Int32)), .unset, .unset, .unset, .unset, .unset] [(.int p1)])) rfl (hb hby at_8) _ ?_
    show Steps p.tables e below (s₁.setTop (mkF m 10 #[.val (.int p0), .val (.int p1), .val (.int (4 : Int32)), .unset, .unset, .unset, .unset, .unset] [(.int (2147483647 : Int32)), (.int p1)])) _
    refine XS.iand X0.here hx rfl (hb hby at_10) rfl ?_
    show Steps p.tables e below (s₁.setTop (mkF m 11 #[.val (.int p0), .val (.int p1), .val (.int (4 : Int32)), .unset, .unset, .unset, .unset, .unset] [(.int (p1 &&& (2147483647 : Int32)))])) _
    refine XS.iconst X0.here hx rfl (hb hby at_11) ?_
    show Steps p.tables e below (s₁.setTop (mkF m 12 #[.val (.int p0), .val (.int p1), .val (.int (4 : Int32)), .unset, .unset, .unset, .unset, .unset] [(.int (5 : Int32)), (.int (p1 &&& (2147483647 : Int32)))])) _
    refine iremM X0 hx rfl (hb hby at_12) rfl (by decide) ?_
    show Steps p.tables e below (s₁.setTop (mkF m 13 #[.val (.int p0), .val (.int p1), .val (.int (4 : Int32)), .unset, .unset, .unset, .unset, .unset] [(.int ((p1 &&& (2147483647 : Int32)) % (5 : Int32)))])) _
    rw [hk1]
    show Steps p.tables e below (s₁.setTop (mkF m 13 #[.val (.int p0), .val (.int p1), .val (.int (4 : Int32)), .unset, .unset, .unset, .unset, .unset] [(.int (2 : Int32))])) _
    refine XS.istoreN X0.here hx rfl (hb hby at_13) rfl (l' := #[.val (.int p0), .val (.int p1), .val (.int (4 : Int32)), .val (.int (2 : Int32)), .unset, .unset, .unset, .unset]) rfl ?_
    show Steps p.tables e below (s₁.setTop (mkF m 14 #[.val (.int p0), .val (.int p1), .val (.int (4 : Int32)), .val (.int (2 : Int32)), .unset, .unset, .unset, .unset] [])) _
    refine XS.iloadN X0.here hx rfl (hb hby at_14) rfl ?_
    show Steps p.tables e below (s₁.setTop (mkF m 15 #[.val (.int p0), .val (.int p1), .val (.int (4 : Int32)), .val (.int (2 : Int32)), .unset, .unset, .unset, .unset] [(.int (4 : Int32))])) _
    refine st1 _ ?_
    show Steps p.tables e below (T1.setTop (mkF m 18 #[.val (.int p0), .val (.int p1), .val (.int (4 : Int32)), .val (.int (2 : Int32)), .unset, .unset, .unset, .unset] [(.ref a_ABORT)])) _
    refine XS.astore X1.here hx rfl (hb hby at_18) rfl rfl (l' := #[.val (.int p0), .val (.int p1), .val (.int (4 : Int32)), .val (.int (2 : Int32)), .val (.ref a_ABORT), .unset, .unset, .unset]) rfl ?_
    show Steps p.tables e below (T1.setTop (mkF m 20 #[.val (.int p0), .val (.int p1), .val (.int (4 : Int32)), .val (.int (2 : Int32)), .val (.ref a_ABORT), .unset, .unset, .unset] [])) _
    refine XS.iloadN X1.here hx rfl (hb hby at_20) rfl ?_
    show Steps p.tables e below (T1.setTop (mkF m 21 #[.val (.int p0), .val (.int p1), .val (.int (4 : Int32)), .val (.int (2 : Int32)), .val (.ref a_ABORT), .unset, .unset, .unset] [(.int (2 : Int32))])) _
    refine st2 _ ?_
    show Steps p.tables e below (T2.setTop (mkF m 24 #[.val (.int p0), .val (.int p1), .val (.int (4 : Int32)), .val (.int (2 : Int32)), .val (.ref a_ABORT), .unset, .unset, .unset] [(.ref a_INCREMENT)])) _
    refine XS.astore X2.here hx rfl (hb hby at_24) rfl rfl (l' := #[.val (.int p0), .val (.int p1), .val (.int (4 : Int32)), .val (.int (2 : Int32)), .val (.ref a_ABORT), .val (.ref a_INCREMENT), .unset, .unset]) rfl ?_
    show Steps p.tables e below (T2.setTop (mkF m 26 #[.val (.int p0), .val (.int p1), .val (.int (4 : Int32)), .val (.int (2 : Int32)), .val (.ref a_ABORT), .val (.ref a_INCREMENT), .unset, .unset] [])) _
    refine st3 _ ?_
    show Steps p.tables e below (T3.setTop (mkF m 151 #[.val (.int p0), .val (.int p1), .val (.int (4 : Int32)), .val (.int (2 : Int32)), .val (.ref a_ABORT), .val (.ref a_INCREMENT), .val (.ref b3), .unset] [])) _
    refine XS.aload X3.here hx rfl (hb hby at_151) rfl rfl ?_
    show Steps p.tables e below (T3.setTop (mkF m 153 #[.val (.int p0), .val (.int p1), .val (.int (4 : Int32)), .val (.int (2 : Int32)), .val (.ref a_ABORT), .val (.ref a_INCREMENT), .val (.ref b3), .unset] [(.ref b3)])) _
    refine XS.iloadN X3.here hx rfl (hb hby at_153) rfl ?_
    show Steps p.tables e below (T3.setTop (mkF m 154 #[.val (.int p0), .val (.int p1), .val (.int (4 : Int32)), .val (.int (2 : Int32)), .val (.ref a_ABORT), .val (.ref a_INCREMENT), .val (.ref b3), .unset] [(.int (4 : Int32)), (.ref b3)])) _
    refine XS.iconst X3.here hx rfl (hb hby at_154) ?_
    show Steps p.tables e below (T3.setTop (mkF m 155 #[.val (.int p0), .val (.int p1), .val (.int (4 : Int32)), .val (.int (2 : Int32)), .val (.ref a_ABORT), .val (.ref a_INCREMENT), .val (.ref b3), .unset] [(.int (5 : Int32)), (.int (4 : Int32)), (.ref b3)])) _
    refine XS.imul X3.here hx rfl (hb hby at_155) rfl ?_
    show Steps p.tables e below (T3.setTop (mkF m 156 #[.val (.int p0), .val (.int p1), .val (.int (4 : Int32)), .val (.int (2 : Int32)), .val (.ref a_ABORT), .val (.ref a_INCREMENT), .val (.ref b3), .unset] [(.int ((4 : Int32) * (5 : Int32))), (.ref b3)])) _
    rw [(by decide : ((4 : Int32) * (5 : Int32)) = (20 : Int32))]
    show Steps p.tables e below (T3.setTop (mkF m 156 #[.val (.int p0), .val (.int p1), .val (.int (4 : Int32)), .val (.int (2 : Int32)), .val (.ref a_ABORT), .val (.ref a_INCREMENT), .val (.ref b3), .unset] [(.int (20 : Int32)), (.ref b3)])) _
    refine XS.iloadN X3.here hx rfl (hb hby at_156) rfl ?_
    show Steps p.tables e below (T3.setTop (mkF m 157 #[.val (.int p0), .val (.int p1), .val (.int (4 : Int32)), .val (.int (2 : Int32)), .val (.ref a_ABORT), .val (.ref a_INCREMENT), .val (.ref b3), .unset] [(.int (2 : Int32)), (.int (20 : Int32)), (.ref b3)])) _
    refine XS.iadd X3.here hx rfl (hb hby at_157) rfl ?_
    show Steps p.tables e below (T3.setTop (mkF m 158 #[.val (.int p0), .val (.int p1), .val (.int (4 : Int32)), .val (.int (2 : Int32)), .val (.ref a_ABORT), .val (.ref a_INCREMENT), .val (.ref b3), .unset] [(.int ((20 : Int32) + (2 : Int32))), (.ref b3)])) _
    rw [(by decide : ((20 : Int32) + (2 : Int32)) = (22 : Int32))]
    show Steps p.tables e below (T3.setTop (mkF m 158 #[.val (.int p0), .val (.int p1), .val (.int (4 : Int32)), .val (.int (2 : Int32)), .val (.ref a_ABORT), .val (.ref a_INCREMENT), .val (.ref b3), .unset] [(.int (22 : Int32)), (.ref b3)])) _
    refine X3.baloadBooleans hx (j := (22 : Int32)) (v := (.int (0 : Int32))) (by rw [e3]; exact r4.1) (State.isArrayOf_alike hZ.alike r4.2.1) r4.2.2 i4 y4 (g := (mkF m 158 #[.val (.int p0), .val (.int p1), .val (.int (4 : Int32)), .val (.int (2 : Int32)), .val (.ref a_ABORT), .val (.ref a_INCREMENT), .val (.ref b3), .unset] [(.int (22 : Int32)), (.ref b3)])) rfl rfl (hb hby at_158) _ ?_
    show Steps p.tables e below (T3.setTop (mkF m 159 #[.val (.int p0), .val (.int p1), .val (.int (4 : Int32)), .val (.int (2 : Int32)), .val (.ref a_ABORT), .val (.ref a_INCREMENT), .val (.ref b3), .unset] [(.int (0 : Int32))])) _
    refine XS.istore X3.here hx rfl (hb hby at_159) rfl (l' := #[.val (.int p0), .val (.int p1), .val (.int (4 : Int32)), .val (.int (2 : Int32)), .val (.ref a_ABORT), .val (.ref a_INCREMENT), .val (.ref b3), .val (.int (0 : Int32))]) rfl ?_
    show Steps p.tables e below (T3.setTop (mkF m 161 #[.val (.int p0), .val (.int p1), .val (.int (4 : Int32)), .val (.int (2 : Int32)), .val (.ref a_ABORT), .val (.ref a_INCREMENT), .val (.ref b3), .val (.int (0 : Int32))] [])) _
    refine XS.aload X3.here hx rfl (hb hby at_161) rfl rfl ?_
    show Steps p.tables e below (T3.setTop (mkF m 163 #[.val (.int p0), .val (.int p1), .val (.int (4 : Int32)), .val (.int (2 : Int32)), .val (.ref a_ABORT), .val (.ref a_INCREMENT), .val (.ref b3), .val (.int (0 : Int32))] [(.ref a_ABORT)])) _
    refine XS.aload X3.here hx rfl (hb hby at_163) rfl rfl ?_
    show Steps p.tables e below (T3.setTop (mkF m 165 #[.val (.int p0), .val (.int p1), .val (.int (4 : Int32)), .val (.int (2 : Int32)), .val (.ref a_ABORT), .val (.ref a_INCREMENT), .val (.ref b3), .val (.int (0 : Int32))] [(.ref a_INCREMENT), (.ref a_ABORT)])) _
    refine st5.trans ?_
    show Steps p.tables e below (T5.setTop (mkF m 168 #[.val (.int p0), .val (.int p1), .val (.int (4 : Int32)), .val (.int (2 : Int32)), .val (.ref a_ABORT), .val (.ref a_INCREMENT), .val (.ref b3), .val (.int (0 : Int32))] [(.int (0 : Int32))])) _
    refine XS.iload X5.here hx rfl (hb hby at_168) rfl ?_
    show Steps p.tables e below (T5.setTop (mkF m 170 #[.val (.int p0), .val (.int p1), .val (.int (4 : Int32)), .val (.int (2 : Int32)), .val (.ref a_ABORT), .val (.ref a_INCREMENT), .val (.ref b3), .val (.int (0 : Int32))] [(.int (0 : Int32)), (.int (0 : Int32))])) _
    refine XS.icmpNo X5.here hx rfl (hb hby at_170) rfl (by decide) ?_
    show Steps p.tables e below (T5.setTop (mkF m 173 #[.val (.int p0), .val (.int p1), .val (.int (4 : Int32)), .val (.int (2 : Int32)), .val (.ref a_ABORT), .val (.ref a_INCREMENT), .val (.ref b3), .val (.int (0 : Int32))] [])) _
    refine XS.iconst X5.here hx rfl (hb hby at_173) ?_
    show Steps p.tables e below (T5.setTop (mkF m 174 #[.val (.int p0), .val (.int p1), .val (.int (4 : Int32)), .val (.int (2 : Int32)), .val (.ref a_ABORT), .val (.ref a_INCREMENT), .val (.ref b3), .val (.int (0 : Int32))] [(.int (1 : Int32))])) _
    refine XS.goto X5.here hx rfl (pc0 := 174) (pc' := 178) rfl (hb hby at_174) (by decide) (by decide) ?_
    show Steps p.tables e below (T5.setTop (mkF m 178 #[.val (.int p0), .val (.int p1), .val (.int (4 : Int32)), .val (.int (2 : Int32)), .val (.ref a_ABORT), .val (.ref a_INCREMENT), .val (.ref b3), .val (.int (0 : Int32))] [(.int (1 : Int32))])) _
    exact retN X5 hx (t := .boolean) Bd.returns (by simp) (hb hby at_178) hr
  · exact ⟨rfl, N5⟩
set_option maxRecDepth 65536 in
set_option maxHeartbeats 40000000 in
theorem rm2_23 (l : Launch) (Z : State) (a0 : Array Value) (hw : ∀ d ∈ tables_1, d.before a0 Z = true) (ws : List Jvm.Cond) (p0 p1 : Int32) (a_READ a_COMMIT a_ABORT a_WRITE a_INCREMENT : Addr) (h0 : Heap) (n0 : Nat) (Z0 : n0 ≤ h0.size) (FF : Facts Z h0 a_READ a_COMMIT a_ABORT a_WRITE a_INCREMENT) :
    MetFree l (⟨"com/example/schedulock/schedulock/schedule/OperationKind", "conflictsWith", "(Lcom/example/schedulock/schedulock/schedule/OperationKind;)Z"⟩ : MethodName) (head1 (Jvm.Cond.code (⟨"com/example/schedulock/schedulock/schedule/OperationKind", "conflictsWith", "(Lcom/example/schedulock/schedulock/schedule/OperationKind;)Z"⟩ : MethodName) prog_31_method_5_code 2 (some .boolean) :: ws) ({ frames := 0, cells := 0, slots := 0, locals := 0 } : Room)) (fun a U => a = #[(.ref a_ABORT), (.ref a_COMMIT)] ∧ Z.Warmed39 U.vm ∧ U.heap = h0) (fun _ _ _ _ _ => True) (fun _ U o U' => ∃ v L, o = .returned v ∧ own_Q (.int (0 : Int32)) h0 n0 v U'.heap L ∧ FrameEnd U o U' L ({ frames := 0, cells := 0, slots := 0, locals := 0 } : Room).cells ({ frames := 0, cells := 0, slots := 0, locals := 0 } : Room).slots) := by
  refine MetFree.of_bodySF (plainFor_of_name pn_2) hisR ?_
  intro p e s m args below meth c s₁ Bd hml0 hP hK
  obtain ⟨rfl, hZ, hh⟩ := hP
  have hx := Bd.exec
  have hby := Bd.bytes
  have hml : c.maxLocals = 2 := hml0
  have hown : s.vm.findClass "com/example/schedulock/schedulock/schedule/OperationKind" = some m.cls := findClass_of_methodNamed Bd.named
  have X0 : Stand p l e ({ frames := 0, cells := 0, slots := 0, locals := 0 } : Room) s m #[(.ref a_ABORT), (.ref a_COMMIT)] below meth c s₁ [] 0 0 := Stand.of_body Bd
  have e0 : s₁.heap = h0 := by rw [← hh, Bd.state]; rfl
  have N0 := Fr.nil n0
  have pre0 : ∀ t, Steps p.tables e below (s₁.setTop (mkF m 0 #[.val (.ref a_ABORT), .val (.ref a_COMMIT)] [])) t → Steps p.tables e below (s₁.setTop (entryFrame m #[(.ref a_ABORT), (.ref a_COMMIT)] 2)) t := fun t k => castTop (ef_2 m a_ABORT a_COMMIT) k
  obtain ⟨T1, X1, e1, st1⟩ := getF X0 hx hZ hown (host := "") (Or.inl (hw _ (List.mem_of_getElem? (i := 16) rfl))) Via.refl e0 (fx_F_ABORT_takesItem FF) (g := (mkF m 1 #[.val (.ref a_ABORT), .val (.ref a_COMMIT)] [(.ref a_ABORT)])) rfl rfl (hb hby d2_1)
  obtain ⟨fs, hr, hrun, hended, hW, hsame⟩ := X1.leave (v := some (.int (0 : Int32))) (fun h => by rw [Bd.returns] at h; cases h)
  refine ⟨_, _, pre0 _ ?_, hrun, hended, _, _, rfl, ?_, ⟨_, rfl⟩, hW, hsame.mono (by decide) (by decide)⟩
  · show Steps p.tables e below (s₁.setTop (mkF m 0 #[.val (.ref a_ABORT), .val (.ref a_COMMIT)] [])) _
    refine XS.aloadN X0.here hx rfl (hb hby d2_0) rfl rfl ?_
    show Steps p.tables e below (s₁.setTop (mkF m 1 #[.val (.ref a_ABORT), .val (.ref a_COMMIT)] [(.ref a_ABORT)])) _
    refine st1 _ ?_
    show Steps p.tables e below (T1.setTop (mkF m 4 #[.val (.ref a_ABORT), .val (.ref a_COMMIT)] [(.int (0 : Int32))])) _
    refine XS.ifYes X1.here hx rfl (pc0 := 4) (pc' := 30) rfl (hb hby d2_4) rfl (by decide) (by decide) (by decide) ?_
    show Steps p.tables e below (T1.setTop (mkF m 30 #[.val (.ref a_ABORT), .val (.ref a_COMMIT)] [])) _
    refine XS.iconst X1.here hx rfl (hb hby d2_30) ?_
    show Steps p.tables e below (T1.setTop (mkF m 31 #[.val (.ref a_ABORT), .val (.ref a_COMMIT)] [(.int (0 : Int32))])) _
    exact retN X1 hx (t := .boolean) Bd.returns (by simp) (hb hby d2_31) hr
  · show own_Q _ _ _ _ T1.heap _
    exact ⟨rfl, N0, e1⟩
set_option maxRecDepth 65536 in
set_option maxHeartbeats 40000000 in
theorem rm0_23 (l : Launch) (Z : State) (a0 : Array Value) (hw : ∀ d ∈ tables_1, d.before a0 Z = true) (ws : List Jvm.Cond) (p0 p1 : Int32) (a_READ a_COMMIT a_ABORT a_WRITE a_INCREMENT : Addr) (h0 : Heap) (n0 : Nat) (Z0 : n0 ≤ h0.size) (FF : Facts Z h0 a_READ a_COMMIT a_ABORT a_WRITE a_INCREMENT) (hk0 : ((p0 &&& (2147483647 : Int32)) % (5 : Int32)) = (4 : Int32)) (hk1 : ((p1 &&& (2147483647 : Int32)) % (5 : Int32)) = (3 : Int32)) :
    MetFree l x (head1 (Jvm.Cond.code x code maxLocals ret :: ws) room_1) (fun a U => a = #[(.int p0), (.int p1)] ∧ Z.Warmed39 U.vm ∧ U.heap = h0) (fun _ _ _ _ _ => True) (fun _ U o U' => ∃ v L, o = .returned v ∧ (v = some (.int (1 : Int32)) ∧ Fr n0 L) ∧ FrameEnd U o U' L room_1.cells room_1.slots) := by
  refine MetFree.of_bodySF (plainFor_of_name pn_0) hisR ?_
  intro p e s m args below meth c s₁ Bd hml0 hP hK
  obtain ⟨rfl, hZ, hh⟩ := hP
  have hx := Bd.exec
  have hby := Bd.bytes
  have hml : c.maxLocals = 8 := hml0
  have hown : s.vm.findClass "com/example/schedulock/schedulock/schedule/OperationKindConflictsWithPinLaw" = some m.cls := findClass_of_methodNamed Bd.named
  have X0 : Stand p l e room_1 s m #[(.int p0), (.int p1)] below meth c s₁ [] 0 0 := Stand.of_body Bd
  have e0 : s₁.heap = h0 := by rw [← hh, Bd.state]; rfl
  have N0 := Fr.nil n0
  have pre0 : ∀ t, Steps p.tables e below (s₁.setTop (mkF m 0 #[.val (.int p0), .val (.int p1), .unset, .unset, .unset, .unset, .unset, .unset] [])) t → Steps p.tables e below (s₁.setTop (entryFrame m #[(.int p0), (.int p1)] maxLocals)) t := fun t k => castTop (ef_0 m p0 p1) k
  obtain ⟨_, _, ⟨T1, L1, k1, n1⟩, -, X1, ⟨Lc1, hQ1, l1, y1, z1⟩, st1⟩ := Jvm.LawKit.callS X0 hx (y := (⟨"com/example/schedulock/schedulock/schedule/OperationKindConflictsWithPinLaw", "kind", "(I)Lcom/example/schedulock/schedulock/schedule/OperationKind;"⟩ : MethodName)) hown (mvT hZ (hw _ (List.mem_of_getElem? (i := 1) rfl))) (mvT hZ (hw _ (List.mem_of_getElem? (i := 2) rfl))) (mvT hZ (hw _ (List.mem_of_getElem? (i := 3) rfl))) (mvT hZ (hw _ (List.mem_of_getElem? (i := 4) rfl))) (by decide) (backOf (W := 0) (rm1_4 l Z a0 hw [] p0 p1 a_READ a_COMMIT a_ABORT a_WRITE a_INCREMENT h0 n0 (Nat.le_trans Z0 (Nat.le_refl _)) FF) hZ (hw _ (List.mem_of_getElem? (i := 4) rfl)) (hw _ (List.mem_of_getElem? (i := 3) rfl)) (by decide) (by decide)) (g := (mkF m 15 #[.val (.int p0), .val (.int p1), .val (.int (4 : Int32)), .val (.int (3 : Int32)), .unset, .unset, .unset, .unset] [(.int (4 : Int32))])) rfl (by rw [hml]; rfl) (argsL := [(.int (4 : Int32))]) (rest := []) (lenOf pd_0 rfl) rfl (by show 2 * 0 + _ ≤ _; exact Nat.le_of_eq rfl) (hb hby at_15) (fun _ _ => ⟨rfl, e0, (by decide : 0 + 0 ≤ _), (by decide : 0 + 0 ≤ _)⟩)
  dsimp only [Pt.U, Pt.locs, Pt.cells, Pt.slots] at X1 l1 y1 z1 st1 hQ1
  subst l1 y1 z1
  obtain ⟨rfl, N1q, e1⟩ := hQ1
  have N1 := Fr.app N0 N1q
  obtain ⟨_, _, ⟨T2, L2, k2, n2⟩, -, X2, ⟨Lc2, hQ2, l2, y2, z2⟩, st2⟩ := Jvm.LawKit.callS X1 hx (y := (⟨"com/example/schedulock/schedulock/schedule/OperationKindConflictsWithPinLaw", "kind", "(I)Lcom/example/schedulock/schedulock/schedule/OperationKind;"⟩ : MethodName)) hown (mvT hZ (hw _ (List.mem_of_getElem? (i := 1) rfl))) (mvT hZ (hw _ (List.mem_of_getElem? (i := 2) rfl))) (mvT hZ (hw _ (List.mem_of_getElem? (i := 3) rfl))) (mvT hZ (hw _ (List.mem_of_getElem? (i := 4) rfl))) (by decide) (backOf (W := 0) (rm1_3 l Z a0 hw [] p0 p1 a_READ a_COMMIT a_ABORT a_WRITE a_INCREMENT h0 n0 (Nat.le_trans Z0 (Nat.le_refl _)) FF) hZ (hw _ (List.mem_of_getElem? (i := 4) rfl)) (hw _ (List.mem_of_getElem? (i := 3) rfl)) (by decide) (by decide)) (g := (mkF m 21 #[.val (.int p0), .val (.int p1), .val (.int (4 : Int32)), .val (.int (3 : Int32)), .val (.ref a_ABORT), .unset, .unset, .unset] [(.int (3 : Int32))])) rfl (by rw [hml]; rfl) (argsL := [(.int (3 : Int32))]) (rest := []) (lenOf pd_0 rfl) rfl (by show 2 * 0 + _ ≤ _; exact Nat.le_of_eq rfl) (hb hby at_21) (fun _ _ => ⟨rfl, e1, (by decide : 0 + 0 ≤ _), (by decide : 0 + 0 ≤ _)⟩)
  dsimp only [Pt.U, Pt.locs, Pt.cells, Pt.slots] at X2 l2 y2 z2 st2 hQ2
  subst l2 y2 z2
  obtain ⟨rfl, N2q, e2⟩ := hQ2
  have N2 := Fr.app N1 N2q
  obtain ⟨T3, h3, b3, k3, lc3, X3, e3, s_b3, z3, N3, FF3, V3, st3⟩ := seg_0 (l := l) (Z := Z) hw a_READ a_COMMIT a_ABORT a_WRITE a_INCREMENT p0 p1 (4 : Int32) (3 : Int32) a_ABORT a_COMMIT X2 hx hZ hby hml hown e2 Z0 N2 FF
  obtain ⟨c4, r4, -, S4, -, H4, -⟩ := V3
  have i4 : ¬ ((23 : Int32) < 0 ∨ c4.slots.size ≤ ((23 : Int32)).toNatClampNeg) := inb_of S4 ⟨by decide, by decide⟩
  have y4 : c4.slots[((23 : Int32)).toNatClampNeg]? = some (.int (0 : Int32)) := H4 23 (by rw [S4]; decide)
  obtain ⟨cq5, kq5, q5a, q5b, q5c⟩ := isOf hZ e3 (fx_E_ABORT FF3)
  obtain ⟨_, _, ⟨T5, L5, k5, n5⟩, -, X5, ⟨Lc5, hQ5, l5, y5, z5⟩, st5⟩ := X3.virtualBack hx (y := (⟨"com/example/schedulock/schedulock/schedule/OperationKind", "conflictsWith", "(Lcom/example/schedulock/schedulock/schedule/OperationKind;)Z"⟩ : MethodName)) (z := (⟨"com/example/schedulock/schedulock/schedule/OperationKind", "conflictsWith", "(Lcom/example/schedulock/schedulock/schedule/OperationKind;)Z"⟩ : MethodName)) hown (mvT hZ (hw _ (List.mem_of_getElem? (i := 11) rfl))) (mvT hZ (hw _ (List.mem_of_getElem? (i := 12) rfl))) (notFace_of_selects (args := #[]) (mvT hZ (hw _ (List.mem_of_getElem? (i := 14) rfl)))) (mvT hZ (hw _ (List.mem_of_getElem? (i := 14) rfl))) (mvT hZ (hw _ (List.mem_of_getElem? (i := 13) rfl))) (by decide) (backOf (W := 0) (rm2_23 l Z a0 hw [] p0 p1 a_READ a_COMMIT a_ABORT a_WRITE a_INCREMENT h3 n0 (Nat.le_trans Z0 z3) FF3) hZ (hw _ (List.mem_of_getElem? (i := 15) rfl)) (hw _ (List.mem_of_getElem? (i := 6) rfl)) (by decide) (by decide)) q5a q5c (g := (mkF m 165 #[.val (.int p0), .val (.int p1), .val (.int (4 : Int32)), .val (.int (3 : Int32)), .val (.ref a_ABORT), .val (.ref a_COMMIT), .val (.ref b3), .val (.int (0 : Int32))] [(.ref a_COMMIT), (.ref a_ABORT)])) rfl (by rw [hml]; rfl) (Steps.refl _) (argsL := [(.ref a_COMMIT)]) (rest := []) (lenOf pd_1 rfl) rfl (by show 2 * 0 + _ ≤ _; exact Nat.le_of_eq rfl) (hb hby at_165) (fun _ _ => ⟨rfl, e3, (by decide : 1 + 0 ≤ _), (by decide : 25 + 0 ≤ _)⟩)
  dsimp only [Pt.U, Pt.locs, Pt.cells, Pt.slots] at X5 l5 y5 z5 st5 hQ5
  subst l5 y5 z5
  obtain ⟨rfl, N5q, e5⟩ := hQ5
  have N5 := Fr.app N3 N5q
  obtain ⟨fs, hr, hrun, hended, hW, hsame⟩ := X5.leave (v := some (.int (1 : Int32))) (fun h => by rw [Bd.returns] at h; cases h)
  refine ⟨_, _, pre0 _ ?_, hrun, hended, _, _, rfl, ?_, ⟨_, rfl⟩, hW, hsame.mono (by decide) (by decide)⟩
  · show Steps p.tables e below (s₁.setTop (mkF m 0 #[.val (.int p0), .val (.int p1), .unset, .unset, .unset, .unset, .unset, .unset] [])) _
    refine XS.iloadN X0.here hx rfl (hb hby at_0) rfl ?_
    show Steps p.tables e below (s₁.setTop (mkF m 1 #[.val (.int p0), .val (.int p1), .unset, .unset, .unset, .unset, .unset, .unset] [(.int p0)])) _
    refine X0.ldcInt hx hown (mvT hZ (hw _ (List.mem_of_getElem? (i := 0) rfl))) (g := (mkF m 1 #[.val (.int p0), .val (.int p1), .unset, .unset, .unset, .unset, .unset, .unset] [(.int p0)])) rfl (hb hby at_1) _ ?_
    show Steps p.tables e below (s₁.setTop (mkF m 3 #[.val (.int p0), .val (.int p1), .unset, .unset, .unset, .unset, .unset, .unset] [(.int (2147483647 : Int32)), (.int p0)])) _
    refine XS.iand X0.here hx rfl (hb hby at_3) rfl ?_
    show Steps p.tables e below (s₁.setTop (mkF m 4 #[.val (.int p0), .val (.int p1), .unset, .unset, .unset, .unset, .unset, .unset] [(.int (p0 &&& (2147483647 : Int32)))])) _
    refine XS.iconst X0.here hx rfl (hb hby at_4) ?_
    show Steps p.tables e below (s₁.setTop (mkF m 5 #[.val (.int p0), .val (.int p1), .unset, .unset, .unset, .unset, .unset, .unset] [(.int (5 : Int32)), (.int (p0 &&& (2147483647 : Int32)))])) _
    refine iremM X0 hx rfl (hb hby at_5) rfl (by decide) ?_
    show Steps p.tables e below (s₁.setTop (mkF m 6 #[.val (.int p0), .val (.int p1), .unset, .unset, .unset, .unset, .unset, .unset] [(.int ((p0 &&& (2147483647 : Int32)) % (5 : Int32)))])) _
    rw [hk0]
    show Steps p.tables e below (s₁.setTop (mkF m 6 #[.val (.int p0), .val (.int p1), .unset, .unset, .unset, .unset, .unset, .unset] [(.int (4 : Int32))])) _
    refine XS.istoreN X0.here hx rfl (hb hby at_6) rfl (l' := #[.val (.int p0), .val (.int p1), .val (.int (4 : Int32)), .unset, .unset, .unset, .unset, .unset]) rfl ?_
    show Steps p.tables e below (s₁.setTop (mkF m 7 #[.val (.int p0), .val (.int p1), .val (.int (4 : Int32)), .unset, .unset, .unset, .unset, .unset] [])) _
    refine XS.iloadN X0.here hx rfl (hb hby at_7) rfl ?_
    show Steps p.tables e below (s₁.setTop (mkF m 8 #[.val (.int p0), .val (.int p1), .val (.int (4 : Int32)), .unset, .unset, .unset, .unset, .unset] [(.int p1)])) _
    refine X0.ldcInt hx hown (mvT hZ (hw _ (List.mem_of_getElem? (i := 0) rfl))) (g := (mkF m 8 #[.val (.int p0), .val (.int p1), .val (.int (4 : Int32)), .unset, .unset, .unset, .unset, .unset] [(.int p1)])) rfl (hb hby at_8) _ ?_
    show Steps p.tables e below (s₁.setTop (mkF m 10 #[.val (.int p0), .val (.int p1), .val (.int (4 : Int32)), .unset, .unset, .unset, .unset, .unset] [(.int (2147483647 : Int32)), (.int p1)])) _
    refine XS.iand X0.here hx rfl (hb hby at_10) rfl ?_
    show Steps p.tables e below (s₁.setTop (mkF m 11 #[.val (.int p0), .val (.int p1), .val (.int (4 : Int32)), .unset, .unset, .unset, .unset, .unset] [(.int (p1 &&& (2147483647 : Int32)))])) _
    refine XS.iconst X0.here hx rfl (hb hby at_11) ?_
    show Steps p.tables e below (s₁.setTop (mkF m 12 #[.val (.int p0), .val (.int p1), .val (.int (4 : Int32)), .unset, .unset, .unset, .unset, .unset] [(.int (5 : Int32)), (.int (p1 &&& (2147483647 : Int32)))])) _
    refine iremM X0 hx rfl (hb hby at_12) rfl (by decide) ?_
    show Steps p.tables e below (s₁.setTop (mkF m 13 #[.val (.int p0), .val (.int p1), .val (.int (4 : Int32)), .unset, .unset, .unset, .unset, .unset] [(.int ((p1 &&& (2147483647 : Int32)) % (5 : Int32)))])) _
    rw [hk1]
    show Steps p.tables e below (s₁.setTop (mkF m 13 #[.val (.int p0), .val (.int p1), .val (.int (4 : Int32)), .unset, .unset, .unset, .unset, .unset] [(.int (3 : Int32))])) _
    refine XS.istoreN X0.here hx rfl (hb hby at_13) rfl (l' := #[.val (.int p0), .val (.int p1), .val (.int (4 : Int32)), .val (.int (3 : Int32)), .unset, .unset, .unset, .unset]) rfl ?_
    show Steps p.tables e below (s₁.setTop (mkF m 14 #[.val (.int p0), .val (.int p1), .val (.int (4 : Int32)), .val (.int (3 : Int32)), .unset, .unset, .unset, .unset] [])) _
    refine XS.iloadN X0.here hx rfl (hb hby at_14) rfl ?_
    show Steps p.tables e below (s₁.setTop (mkF m 15 #[.val (.int p0), .val (.int p1), .val (.int (4 : Int32)), .val (.int (3 : Int32)), .unset, .unset, .unset, .unset] [(.int (4 : Int32))])) _
    refine st1 _ ?_
    show Steps p.tables e below (T1.setTop (mkF m 18 #[.val (.int p0), .val (.int p1), .val (.int (4 : Int32)), .val (.int (3 : Int32)), .unset, .unset, .unset, .unset] [(.ref a_ABORT)])) _
    refine XS.astore X1.here hx rfl (hb hby at_18) rfl rfl (l' := #[.val (.int p0), .val (.int p1), .val (.int (4 : Int32)), .val (.int (3 : Int32)), .val (.ref a_ABORT), .unset, .unset, .unset]) rfl ?_
    show Steps p.tables e below (T1.setTop (mkF m 20 #[.val (.int p0), .val (.int p1), .val (.int (4 : Int32)), .val (.int (3 : Int32)), .val (.ref a_ABORT), .unset, .unset, .unset] [])) _
    refine XS.iloadN X1.here hx rfl (hb hby at_20) rfl ?_
    show Steps p.tables e below (T1.setTop (mkF m 21 #[.val (.int p0), .val (.int p1), .val (.int (4 : Int32)), .val (.int (3 : Int32)), .val (.ref a_ABORT), .unset, .unset, .unset] [(.int (3 : Int32))])) _
    refine st2 _ ?_
    show Steps p.tables e below (T2.setTop (mkF m 24 #[.val (.int p0), .val (.int p1), .val (.int (4 : Int32)), .val (.int (3 : Int32)), .val (.ref a_ABORT), .unset, .unset, .unset] [(.ref a_COMMIT)])) _
    refine XS.astore X2.here hx rfl (hb hby at_24) rfl rfl (l' := #[.val (.int p0), .val (.int p1), .val (.int (4 : Int32)), .val (.int (3 : Int32)), .val (.ref a_ABORT), .val (.ref a_COMMIT), .unset, .unset]) rfl ?_
    show Steps p.tables e below (T2.setTop (mkF m 26 #[.val (.int p0), .val (.int p1), .val (.int (4 : Int32)), .val (.int (3 : Int32)), .val (.ref a_ABORT), .val (.ref a_COMMIT), .unset, .unset] [])) _
    refine st3 _ ?_
    show Steps p.tables e below (T3.setTop (mkF m 151 #[.val (.int p0), .val (.int p1), .val (.int (4 : Int32)), .val (.int (3 : Int32)), .val (.ref a_ABORT), .val (.ref a_COMMIT), .val (.ref b3), .unset] [])) _
    refine XS.aload X3.here hx rfl (hb hby at_151) rfl rfl ?_
    show Steps p.tables e below (T3.setTop (mkF m 153 #[.val (.int p0), .val (.int p1), .val (.int (4 : Int32)), .val (.int (3 : Int32)), .val (.ref a_ABORT), .val (.ref a_COMMIT), .val (.ref b3), .unset] [(.ref b3)])) _
    refine XS.iloadN X3.here hx rfl (hb hby at_153) rfl ?_
    show Steps p.tables e below (T3.setTop (mkF m 154 #[.val (.int p0), .val (.int p1), .val (.int (4 : Int32)), .val (.int (3 : Int32)), .val (.ref a_ABORT), .val (.ref a_COMMIT), .val (.ref b3), .unset] [(.int (4 : Int32)), (.ref b3)])) _
    refine XS.iconst X3.here hx rfl (hb hby at_154) ?_
    show Steps p.tables e below (T3.setTop (mkF m 155 #[.val (.int p0), .val (.int p1), .val (.int (4 : Int32)), .val (.int (3 : Int32)), .val (.ref a_ABORT), .val (.ref a_COMMIT), .val (.ref b3), .unset] [(.int (5 : Int32)), (.int (4 : Int32)), (.ref b3)])) _
    refine XS.imul X3.here hx rfl (hb hby at_155) rfl ?_
    show Steps p.tables e below (T3.setTop (mkF m 156 #[.val (.int p0), .val (.int p1), .val (.int (4 : Int32)), .val (.int (3 : Int32)), .val (.ref a_ABORT), .val (.ref a_COMMIT), .val (.ref b3), .unset] [(.int ((4 : Int32) * (5 : Int32))), (.ref b3)])) _
    rw [(by decide : ((4 : Int32) * (5 : Int32)) = (20 : Int32))]
    show Steps p.tables e below (T3.setTop (mkF m 156 #[.val (.int p0), .val (.int p1), .val (.int (4 : Int32)), .val (.int (3 : Int32)), .val (.ref a_ABORT), .val (.ref a_COMMIT), .val (.ref b3), .unset] [(.int (20 : Int32)), (.ref b3)])) _
    refine XS.iloadN X3.here hx rfl (hb hby at_156) rfl ?_
    show Steps p.tables e below (T3.setTop (mkF m 157 #[.val (.int p0), .val (.int p1), .val (.int (4 : Int32)), .val (.int (3 : Int32)), .val (.ref a_ABORT), .val (.ref a_COMMIT), .val (.ref b3), .unset] [(.int (3 : Int32)), (.int (20 : Int32)), (.ref b3)])) _
    refine XS.iadd X3.here hx rfl (hb hby at_157) rfl ?_
    show Steps p.tables e below (T3.setTop (mkF m 158 #[.val (.int p0), .val (.int p1), .val (.int (4 : Int32)), .val (.int (3 : Int32)), .val (.ref a_ABORT), .val (.ref a_COMMIT), .val (.ref b3), .unset] [(.int ((20 : Int32) + (3 : Int32))), (.ref b3)])) _
    rw [(by decide : ((20 : Int32) + (3 : Int32)) = (23 : Int32))]
    show Steps p.tables e below (T3.setTop (mkF m 158 #[.val (.int p0), .val (.int p1), .val (.int (4 : Int32)), .val (.int (3 : Int32)), .val (.ref a_ABORT), .val (.ref a_COMMIT), .val (.ref b3), .unset] [(.int (23 : Int32)), (.ref b3)])) _
    refine X3.baloadBooleans hx (j := (23 : Int32)) (v := (.int (0 : Int32))) (by rw [e3]; exact r4.1) (State.isArrayOf_alike hZ.alike r4.2.1) r4.2.2 i4 y4 (g := (mkF m 158 #[.val (.int p0), .val (.int p1), .val (.int (4 : Int32)), .val (.int (3 : Int32)), .val (.ref a_ABORT), .val (.ref a_COMMIT), .val (.ref b3), .unset] [(.int (23 : Int32)), (.ref b3)])) rfl rfl (hb hby at_158) _ ?_
    show Steps p.tables e below (T3.setTop (mkF m 159 #[.val (.int p0), .val (.int p1), .val (.int (4 : Int32)), .val (.int (3 : Int32)), .val (.ref a_ABORT), .val (.ref a_COMMIT), .val (.ref b3), .unset] [(.int (0 : Int32))])) _
    refine XS.istore X3.here hx rfl (hb hby at_159) rfl (l' := #[.val (.int p0), .val (.int p1), .val (.int (4 : Int32)), .val (.int (3 : Int32)), .val (.ref a_ABORT), .val (.ref a_COMMIT), .val (.ref b3), .val (.int (0 : Int32))]) rfl ?_
    show Steps p.tables e below (T3.setTop (mkF m 161 #[.val (.int p0), .val (.int p1), .val (.int (4 : Int32)), .val (.int (3 : Int32)), .val (.ref a_ABORT), .val (.ref a_COMMIT), .val (.ref b3), .val (.int (0 : Int32))] [])) _
    refine XS.aload X3.here hx rfl (hb hby at_161) rfl rfl ?_
    show Steps p.tables e below (T3.setTop (mkF m 163 #[.val (.int p0), .val (.int p1), .val (.int (4 : Int32)), .val (.int (3 : Int32)), .val (.ref a_ABORT), .val (.ref a_COMMIT), .val (.ref b3), .val (.int (0 : Int32))] [(.ref a_ABORT)])) _
    refine XS.aload X3.here hx rfl (hb hby at_163) rfl rfl ?_
    show Steps p.tables e below (T3.setTop (mkF m 165 #[.val (.int p0), .val (.int p1), .val (.int (4 : Int32)), .val (.int (3 : Int32)), .val (.ref a_ABORT), .val (.ref a_COMMIT), .val (.ref b3), .val (.int (0 : Int32))] [(.ref a_COMMIT), (.ref a_ABORT)])) _
    refine st5.trans ?_
    show Steps p.tables e below (T5.setTop (mkF m 168 #[.val (.int p0), .val (.int p1), .val (.int (4 : Int32)), .val (.int (3 : Int32)), .val (.ref a_ABORT), .val (.ref a_COMMIT), .val (.ref b3), .val (.int (0 : Int32))] [(.int (0 : Int32))])) _
    refine XS.iload X5.here hx rfl (hb hby at_168) rfl ?_
    show Steps p.tables e below (T5.setTop (mkF m 170 #[.val (.int p0), .val (.int p1), .val (.int (4 : Int32)), .val (.int (3 : Int32)), .val (.ref a_ABORT), .val (.ref a_COMMIT), .val (.ref b3), .val (.int (0 : Int32))] [(.int (0 : Int32)), (.int (0 : Int32))])) _
    refine XS.icmpNo X5.here hx rfl (hb hby at_170) rfl (by decide) ?_
    show Steps p.tables e below (T5.setTop (mkF m 173 #[.val (.int p0), .val (.int p1), .val (.int (4 : Int32)), .val (.int (3 : Int32)), .val (.ref a_ABORT), .val (.ref a_COMMIT), .val (.ref b3), .val (.int (0 : Int32))] [])) _
    refine XS.iconst X5.here hx rfl (hb hby at_173) ?_
    show Steps p.tables e below (T5.setTop (mkF m 174 #[.val (.int p0), .val (.int p1), .val (.int (4 : Int32)), .val (.int (3 : Int32)), .val (.ref a_ABORT), .val (.ref a_COMMIT), .val (.ref b3), .val (.int (0 : Int32))] [(.int (1 : Int32))])) _
    refine XS.goto X5.here hx rfl (pc0 := 174) (pc' := 178) rfl (hb hby at_174) (by decide) (by decide) ?_
    show Steps p.tables e below (T5.setTop (mkF m 178 #[.val (.int p0), .val (.int p1), .val (.int (4 : Int32)), .val (.int (3 : Int32)), .val (.ref a_ABORT), .val (.ref a_COMMIT), .val (.ref b3), .val (.int (0 : Int32))] [(.int (1 : Int32))])) _
    exact retN X5 hx (t := .boolean) Bd.returns (by simp) (hb hby at_178) hr
  · exact ⟨rfl, N5⟩
set_option maxRecDepth 65536 in
set_option maxHeartbeats 40000000 in
theorem rm2_24 (l : Launch) (Z : State) (a0 : Array Value) (hw : ∀ d ∈ tables_1, d.before a0 Z = true) (ws : List Jvm.Cond) (p0 p1 : Int32) (a_READ a_COMMIT a_ABORT a_WRITE a_INCREMENT : Addr) (h0 : Heap) (n0 : Nat) (Z0 : n0 ≤ h0.size) (FF : Facts Z h0 a_READ a_COMMIT a_ABORT a_WRITE a_INCREMENT) :
    MetFree l (⟨"com/example/schedulock/schedulock/schedule/OperationKind", "conflictsWith", "(Lcom/example/schedulock/schedulock/schedule/OperationKind;)Z"⟩ : MethodName) (head1 (Jvm.Cond.code (⟨"com/example/schedulock/schedulock/schedule/OperationKind", "conflictsWith", "(Lcom/example/schedulock/schedulock/schedule/OperationKind;)Z"⟩ : MethodName) prog_31_method_5_code 2 (some .boolean) :: ws) ({ frames := 0, cells := 0, slots := 0, locals := 0 } : Room)) (fun a U => a = #[(.ref a_ABORT), (.ref a_ABORT)] ∧ Z.Warmed39 U.vm ∧ U.heap = h0) (fun _ _ _ _ _ => True) (fun _ U o U' => ∃ v L, o = .returned v ∧ own_Q (.int (0 : Int32)) h0 n0 v U'.heap L ∧ FrameEnd U o U' L ({ frames := 0, cells := 0, slots := 0, locals := 0 } : Room).cells ({ frames := 0, cells := 0, slots := 0, locals := 0 } : Room).slots) := by
  refine MetFree.of_bodySF (plainFor_of_name pn_2) hisR ?_
  intro p e s m args below meth c s₁ Bd hml0 hP hK
  obtain ⟨rfl, hZ, hh⟩ := hP
  have hx := Bd.exec
  have hby := Bd.bytes
  have hml : c.maxLocals = 2 := hml0
  have hown : s.vm.findClass "com/example/schedulock/schedulock/schedule/OperationKind" = some m.cls := findClass_of_methodNamed Bd.named
  have X0 : Stand p l e ({ frames := 0, cells := 0, slots := 0, locals := 0 } : Room) s m #[(.ref a_ABORT), (.ref a_ABORT)] below meth c s₁ [] 0 0 := Stand.of_body Bd
  have e0 : s₁.heap = h0 := by rw [← hh, Bd.state]; rfl
  have N0 := Fr.nil n0
  have pre0 : ∀ t, Steps p.tables e below (s₁.setTop (mkF m 0 #[.val (.ref a_ABORT), .val (.ref a_ABORT)] [])) t → Steps p.tables e below (s₁.setTop (entryFrame m #[(.ref a_ABORT), (.ref a_ABORT)] 2)) t := fun t k => castTop (ef_2 m a_ABORT a_ABORT) k
  obtain ⟨T1, X1, e1, st1⟩ := getF X0 hx hZ hown (host := "") (Or.inl (hw _ (List.mem_of_getElem? (i := 16) rfl))) Via.refl e0 (fx_F_ABORT_takesItem FF) (g := (mkF m 1 #[.val (.ref a_ABORT), .val (.ref a_ABORT)] [(.ref a_ABORT)])) rfl rfl (hb hby d2_1)
  obtain ⟨fs, hr, hrun, hended, hW, hsame⟩ := X1.leave (v := some (.int (0 : Int32))) (fun h => by rw [Bd.returns] at h; cases h)
  refine ⟨_, _, pre0 _ ?_, hrun, hended, _, _, rfl, ?_, ⟨_, rfl⟩, hW, hsame.mono (by decide) (by decide)⟩
  · show Steps p.tables e below (s₁.setTop (mkF m 0 #[.val (.ref a_ABORT), .val (.ref a_ABORT)] [])) _
    refine XS.aloadN X0.here hx rfl (hb hby d2_0) rfl rfl ?_
    show Steps p.tables e below (s₁.setTop (mkF m 1 #[.val (.ref a_ABORT), .val (.ref a_ABORT)] [(.ref a_ABORT)])) _
    refine st1 _ ?_
    show Steps p.tables e below (T1.setTop (mkF m 4 #[.val (.ref a_ABORT), .val (.ref a_ABORT)] [(.int (0 : Int32))])) _
    refine XS.ifYes X1.here hx rfl (pc0 := 4) (pc' := 30) rfl (hb hby d2_4) rfl (by decide) (by decide) (by decide) ?_
    show Steps p.tables e below (T1.setTop (mkF m 30 #[.val (.ref a_ABORT), .val (.ref a_ABORT)] [])) _
    refine XS.iconst X1.here hx rfl (hb hby d2_30) ?_
    show Steps p.tables e below (T1.setTop (mkF m 31 #[.val (.ref a_ABORT), .val (.ref a_ABORT)] [(.int (0 : Int32))])) _
    exact retN X1 hx (t := .boolean) Bd.returns (by simp) (hb hby d2_31) hr
  · show own_Q _ _ _ _ T1.heap _
    exact ⟨rfl, N0, e1⟩
set_option maxRecDepth 65536 in
set_option maxHeartbeats 40000000 in
theorem rm0_24 (l : Launch) (Z : State) (a0 : Array Value) (hw : ∀ d ∈ tables_1, d.before a0 Z = true) (ws : List Jvm.Cond) (p0 p1 : Int32) (a_READ a_COMMIT a_ABORT a_WRITE a_INCREMENT : Addr) (h0 : Heap) (n0 : Nat) (Z0 : n0 ≤ h0.size) (FF : Facts Z h0 a_READ a_COMMIT a_ABORT a_WRITE a_INCREMENT) (hk0 : ((p0 &&& (2147483647 : Int32)) % (5 : Int32)) = (4 : Int32)) (hk1 : ((p1 &&& (2147483647 : Int32)) % (5 : Int32)) = (4 : Int32)) :
    MetFree l x (head1 (Jvm.Cond.code x code maxLocals ret :: ws) room_1) (fun a U => a = #[(.int p0), (.int p1)] ∧ Z.Warmed39 U.vm ∧ U.heap = h0) (fun _ _ _ _ _ => True) (fun _ U o U' => ∃ v L, o = .returned v ∧ (v = some (.int (1 : Int32)) ∧ Fr n0 L) ∧ FrameEnd U o U' L room_1.cells room_1.slots) := by
  refine MetFree.of_bodySF (plainFor_of_name pn_0) hisR ?_
  intro p e s m args below meth c s₁ Bd hml0 hP hK
  obtain ⟨rfl, hZ, hh⟩ := hP
  have hx := Bd.exec
  have hby := Bd.bytes
  have hml : c.maxLocals = 8 := hml0
  have hown : s.vm.findClass "com/example/schedulock/schedulock/schedule/OperationKindConflictsWithPinLaw" = some m.cls := findClass_of_methodNamed Bd.named
  have X0 : Stand p l e room_1 s m #[(.int p0), (.int p1)] below meth c s₁ [] 0 0 := Stand.of_body Bd
  have e0 : s₁.heap = h0 := by rw [← hh, Bd.state]; rfl
  have N0 := Fr.nil n0
  have pre0 : ∀ t, Steps p.tables e below (s₁.setTop (mkF m 0 #[.val (.int p0), .val (.int p1), .unset, .unset, .unset, .unset, .unset, .unset] [])) t → Steps p.tables e below (s₁.setTop (entryFrame m #[(.int p0), (.int p1)] maxLocals)) t := fun t k => castTop (ef_0 m p0 p1) k
  obtain ⟨_, _, ⟨T1, L1, k1, n1⟩, -, X1, ⟨Lc1, hQ1, l1, y1, z1⟩, st1⟩ := Jvm.LawKit.callS X0 hx (y := (⟨"com/example/schedulock/schedulock/schedule/OperationKindConflictsWithPinLaw", "kind", "(I)Lcom/example/schedulock/schedulock/schedule/OperationKind;"⟩ : MethodName)) hown (mvT hZ (hw _ (List.mem_of_getElem? (i := 1) rfl))) (mvT hZ (hw _ (List.mem_of_getElem? (i := 2) rfl))) (mvT hZ (hw _ (List.mem_of_getElem? (i := 3) rfl))) (mvT hZ (hw _ (List.mem_of_getElem? (i := 4) rfl))) (by decide) (backOf (W := 0) (rm1_4 l Z a0 hw [] p0 p1 a_READ a_COMMIT a_ABORT a_WRITE a_INCREMENT h0 n0 (Nat.le_trans Z0 (Nat.le_refl _)) FF) hZ (hw _ (List.mem_of_getElem? (i := 4) rfl)) (hw _ (List.mem_of_getElem? (i := 3) rfl)) (by decide) (by decide)) (g := (mkF m 15 #[.val (.int p0), .val (.int p1), .val (.int (4 : Int32)), .val (.int (4 : Int32)), .unset, .unset, .unset, .unset] [(.int (4 : Int32))])) rfl (by rw [hml]; rfl) (argsL := [(.int (4 : Int32))]) (rest := []) (lenOf pd_0 rfl) rfl (by show 2 * 0 + _ ≤ _; exact Nat.le_of_eq rfl) (hb hby at_15) (fun _ _ => ⟨rfl, e0, (by decide : 0 + 0 ≤ _), (by decide : 0 + 0 ≤ _)⟩)
  dsimp only [Pt.U, Pt.locs, Pt.cells, Pt.slots] at X1 l1 y1 z1 st1 hQ1
  subst l1 y1 z1
  obtain ⟨rfl, N1q, e1⟩ := hQ1
  have N1 := Fr.app N0 N1q
  obtain ⟨_, _, ⟨T2, L2, k2, n2⟩, -, X2, ⟨Lc2, hQ2, l2, y2, z2⟩, st2⟩ := Jvm.LawKit.callS X1 hx (y := (⟨"com/example/schedulock/schedulock/schedule/OperationKindConflictsWithPinLaw", "kind", "(I)Lcom/example/schedulock/schedulock/schedule/OperationKind;"⟩ : MethodName)) hown (mvT hZ (hw _ (List.mem_of_getElem? (i := 1) rfl))) (mvT hZ (hw _ (List.mem_of_getElem? (i := 2) rfl))) (mvT hZ (hw _ (List.mem_of_getElem? (i := 3) rfl))) (mvT hZ (hw _ (List.mem_of_getElem? (i := 4) rfl))) (by decide) (backOf (W := 0) (rm1_4 l Z a0 hw [] p0 p1 a_READ a_COMMIT a_ABORT a_WRITE a_INCREMENT h0 n0 (Nat.le_trans Z0 (Nat.le_refl _)) FF) hZ (hw _ (List.mem_of_getElem? (i := 4) rfl)) (hw _ (List.mem_of_getElem? (i := 3) rfl)) (by decide) (by decide)) (g := (mkF m 21 #[.val (.int p0), .val (.int p1), .val (.int (4 : Int32)), .val (.int (4 : Int32)), .val (.ref a_ABORT), .unset, .unset, .unset] [(.int (4 : Int32))])) rfl (by rw [hml]; rfl) (argsL := [(.int (4 : Int32))]) (rest := []) (lenOf pd_0 rfl) rfl (by show 2 * 0 + _ ≤ _; exact Nat.le_of_eq rfl) (hb hby at_21) (fun _ _ => ⟨rfl, e1, (by decide : 0 + 0 ≤ _), (by decide : 0 + 0 ≤ _)⟩)
  dsimp only [Pt.U, Pt.locs, Pt.cells, Pt.slots] at X2 l2 y2 z2 st2 hQ2
  subst l2 y2 z2
  obtain ⟨rfl, N2q, e2⟩ := hQ2
  have N2 := Fr.app N1 N2q
  obtain ⟨T3, h3, b3, k3, lc3, X3, e3, s_b3, z3, N3, FF3, V3, st3⟩ := seg_0 (l := l) (Z := Z) hw a_READ a_COMMIT a_ABORT a_WRITE a_INCREMENT p0 p1 (4 : Int32) (4 : Int32) a_ABORT a_ABORT X2 hx hZ hby hml hown e2 Z0 N2 FF
  obtain ⟨c4, r4, -, S4, -, H4, -⟩ := V3
  have i4 : ¬ ((24 : Int32) < 0 ∨ c4.slots.size ≤ ((24 : Int32)).toNatClampNeg) := inb_of S4 ⟨by decide, by decide⟩
  have y4 : c4.slots[((24 : Int32)).toNatClampNeg]? = some (.int (0 : Int32)) := H4 24 (by rw [S4]; decide)
  obtain ⟨cq5, kq5, q5a, q5b, q5c⟩ := isOf hZ e3 (fx_E_ABORT FF3)
  obtain ⟨_, _, ⟨T5, L5, k5, n5⟩, -, X5, ⟨Lc5, hQ5, l5, y5, z5⟩, st5⟩ := X3.virtualBack hx (y := (⟨"com/example/schedulock/schedulock/schedule/OperationKind", "conflictsWith", "(Lcom/example/schedulock/schedulock/schedule/OperationKind;)Z"⟩ : MethodName)) (z := (⟨"com/example/schedulock/schedulock/schedule/OperationKind", "conflictsWith", "(Lcom/example/schedulock/schedulock/schedule/OperationKind;)Z"⟩ : MethodName)) hown (mvT hZ (hw _ (List.mem_of_getElem? (i := 11) rfl))) (mvT hZ (hw _ (List.mem_of_getElem? (i := 12) rfl))) (notFace_of_selects (args := #[]) (mvT hZ (hw _ (List.mem_of_getElem? (i := 14) rfl)))) (mvT hZ (hw _ (List.mem_of_getElem? (i := 14) rfl))) (mvT hZ (hw _ (List.mem_of_getElem? (i := 13) rfl))) (by decide) (backOf (W := 0) (rm2_24 l Z a0 hw [] p0 p1 a_READ a_COMMIT a_ABORT a_WRITE a_INCREMENT h3 n0 (Nat.le_trans Z0 z3) FF3) hZ (hw _ (List.mem_of_getElem? (i := 15) rfl)) (hw _ (List.mem_of_getElem? (i := 6) rfl)) (by decide) (by decide)) q5a q5c (g := (mkF m 165 #[.val (.int p0), .val (.int p1), .val (.int (4 : Int32)), .val (.int (4 : Int32)), .val (.ref a_ABORT), .val (.ref a_ABORT), .val (.ref b3), .val (.int (0 : Int32))] [(.ref a_ABORT), (.ref a_ABORT)])) rfl (by rw [hml]; rfl) (Steps.refl _) (argsL := [(.ref a_ABORT)]) (rest := []) (lenOf pd_1 rfl) rfl (by show 2 * 0 + _ ≤ _; exact Nat.le_of_eq rfl) (hb hby at_165) (fun _ _ => ⟨rfl, e3, (by decide : 1 + 0 ≤ _), (by decide : 25 + 0 ≤ _)⟩)
  dsimp only [Pt.U, Pt.locs, Pt.cells, Pt.slots] at X5 l5 y5 z5 st5 hQ5
  subst l5 y5 z5
  obtain ⟨rfl, N5q, e5⟩ := hQ5
  have N5 := Fr.app N3 N5q
  obtain ⟨fs, hr, hrun, hended, hW, hsame⟩ := X5.leave (v := some (.int (1 : Int32))) (fun h => by rw [Bd.returns] at h; cases h)
  refine ⟨_, _, pre0 _ ?_, hrun, hended, _, _, rfl, ?_, ⟨_, rfl⟩, hW, hsame.mono (by decide) (by decide)⟩
  · show Steps p.tables e below (s₁.setTop (mkF m 0 #[.val (.int p0), .val (.int p1), .unset, .unset, .unset, .unset, .unset, .unset] [])) _
    refine XS.iloadN X0.here hx rfl (hb hby at_0) rfl ?_
    show Steps p.tables e below (s₁.setTop (mkF m 1 #[.val (.int p0), .val (.int p1), .unset, .unset, .unset, .unset, .unset, .unset] [(.int p0)])) _
    refine X0.ldcInt hx hown (mvT hZ (hw _ (List.mem_of_getElem? (i := 0) rfl))) (g := (mkF m 1 #[.val (.int p0), .val (.int p1), .unset, .unset, .unset, .unset, .unset, .unset] [(.int p0)])) rfl (hb hby at_1) _ ?_
    show Steps p.tables e below (s₁.setTop (mkF m 3 #[.val (.int p0), .val (.int p1), .unset, .unset, .unset, .unset, .unset, .unset] [(.int (2147483647 : Int32)), (.int p0)])) _
    refine XS.iand X0.here hx rfl (hb hby at_3) rfl ?_
    show Steps p.tables e below (s₁.setTop (mkF m 4 #[.val (.int p0), .val (.int p1), .unset, .unset, .unset, .unset, .unset, .unset] [(.int (p0 &&& (2147483647 : Int32)))])) _
    refine XS.iconst X0.here hx rfl (hb hby at_4) ?_
    show Steps p.tables e below (s₁.setTop (mkF m 5 #[.val (.int p0), .val (.int p1), .unset, .unset, .unset, .unset, .unset, .unset] [(.int (5 : Int32)), (.int (p0 &&& (2147483647 : Int32)))])) _
    refine iremM X0 hx rfl (hb hby at_5) rfl (by decide) ?_
    show Steps p.tables e below (s₁.setTop (mkF m 6 #[.val (.int p0), .val (.int p1), .unset, .unset, .unset, .unset, .unset, .unset] [(.int ((p0 &&& (2147483647 : Int32)) % (5 : Int32)))])) _
    rw [hk0]
    show Steps p.tables e below (s₁.setTop (mkF m 6 #[.val (.int p0), .val (.int p1), .unset, .unset, .unset, .unset, .unset, .unset] [(.int (4 : Int32))])) _
    refine XS.istoreN X0.here hx rfl (hb hby at_6) rfl (l' := #[.val (.int p0), .val (.int p1), .val (.int (4 : Int32)), .unset, .unset, .unset, .unset, .unset]) rfl ?_
    show Steps p.tables e below (s₁.setTop (mkF m 7 #[.val (.int p0), .val (.int p1), .val (.int (4 : Int32)), .unset, .unset, .unset, .unset, .unset] [])) _
    refine XS.iloadN X0.here hx rfl (hb hby at_7) rfl ?_
    show Steps p.tables e below (s₁.setTop (mkF m 8 #[.val (.int p0), .val (.int p1), .val (.int (4 : Int32)), .unset, .unset, .unset, .unset, .unset] [(.int p1)])) _
    refine X0.ldcInt hx hown (mvT hZ (hw _ (List.mem_of_getElem? (i := 0) rfl))) (g := (mkF m 8 #[.val (.int p0), .val (.int p1), .val (.int (4 : Int32)), .unset, .unset, .unset, .unset, .unset] [(.int p1)])) rfl (hb hby at_8) _ ?_
    show Steps p.tables e below (s₁.setTop (mkF m 10 #[.val (.int p0), .val (.int p1), .val (.int (4 : Int32)), .unset, .unset, .unset, .unset, .unset] [(.int (2147483647 : Int32)), (.int p1)])) _
    refine XS.iand X0.here hx rfl (hb hby at_10) rfl ?_
    show Steps p.tables e below (s₁.setTop (mkF m 11 #[.val (.int p0), .val (.int p1), .val (.int (4 : Int32)), .unset, .unset, .unset, .unset, .unset] [(.int (p1 &&& (2147483647 : Int32)))])) _
    refine XS.iconst X0.here hx rfl (hb hby at_11) ?_
    show Steps p.tables e below (s₁.setTop (mkF m 12 #[.val (.int p0), .val (.int p1), .val (.int (4 : Int32)), .unset, .unset, .unset, .unset, .unset] [(.int (5 : Int32)), (.int (p1 &&& (2147483647 : Int32)))])) _
    refine iremM X0 hx rfl (hb hby at_12) rfl (by decide) ?_
    show Steps p.tables e below (s₁.setTop (mkF m 13 #[.val (.int p0), .val (.int p1), .val (.int (4 : Int32)), .unset, .unset, .unset, .unset, .unset] [(.int ((p1 &&& (2147483647 : Int32)) % (5 : Int32)))])) _
    rw [hk1]
    show Steps p.tables e below (s₁.setTop (mkF m 13 #[.val (.int p0), .val (.int p1), .val (.int (4 : Int32)), .unset, .unset, .unset, .unset, .unset] [(.int (4 : Int32))])) _
    refine XS.istoreN X0.here hx rfl (hb hby at_13) rfl (l' := #[.val (.int p0), .val (.int p1), .val (.int (4 : Int32)), .val (.int (4 : Int32)), .unset, .unset, .unset, .unset]) rfl ?_
    show Steps p.tables e below (s₁.setTop (mkF m 14 #[.val (.int p0), .val (.int p1), .val (.int (4 : Int32)), .val (.int (4 : Int32)), .unset, .unset, .unset, .unset] [])) _
    refine XS.iloadN X0.here hx rfl (hb hby at_14) rfl ?_
    show Steps p.tables e below (s₁.setTop (mkF m 15 #[.val (.int p0), .val (.int p1), .val (.int (4 : Int32)), .val (.int (4 : Int32)), .unset, .unset, .unset, .unset] [(.int (4 : Int32))])) _
    refine st1 _ ?_
    show Steps p.tables e below (T1.setTop (mkF m 18 #[.val (.int p0), .val (.int p1), .val (.int (4 : Int32)), .val (.int (4 : Int32)), .unset, .unset, .unset, .unset] [(.ref a_ABORT)])) _
    refine XS.astore X1.here hx rfl (hb hby at_18) rfl rfl (l' := #[.val (.int p0), .val (.int p1), .val (.int (4 : Int32)), .val (.int (4 : Int32)), .val (.ref a_ABORT), .unset, .unset, .unset]) rfl ?_
    show Steps p.tables e below (T1.setTop (mkF m 20 #[.val (.int p0), .val (.int p1), .val (.int (4 : Int32)), .val (.int (4 : Int32)), .val (.ref a_ABORT), .unset, .unset, .unset] [])) _
    refine XS.iloadN X1.here hx rfl (hb hby at_20) rfl ?_
    show Steps p.tables e below (T1.setTop (mkF m 21 #[.val (.int p0), .val (.int p1), .val (.int (4 : Int32)), .val (.int (4 : Int32)), .val (.ref a_ABORT), .unset, .unset, .unset] [(.int (4 : Int32))])) _
    refine st2 _ ?_
    show Steps p.tables e below (T2.setTop (mkF m 24 #[.val (.int p0), .val (.int p1), .val (.int (4 : Int32)), .val (.int (4 : Int32)), .val (.ref a_ABORT), .unset, .unset, .unset] [(.ref a_ABORT)])) _
    refine XS.astore X2.here hx rfl (hb hby at_24) rfl rfl (l' := #[.val (.int p0), .val (.int p1), .val (.int (4 : Int32)), .val (.int (4 : Int32)), .val (.ref a_ABORT), .val (.ref a_ABORT), .unset, .unset]) rfl ?_
    show Steps p.tables e below (T2.setTop (mkF m 26 #[.val (.int p0), .val (.int p1), .val (.int (4 : Int32)), .val (.int (4 : Int32)), .val (.ref a_ABORT), .val (.ref a_ABORT), .unset, .unset] [])) _
    refine st3 _ ?_
    show Steps p.tables e below (T3.setTop (mkF m 151 #[.val (.int p0), .val (.int p1), .val (.int (4 : Int32)), .val (.int (4 : Int32)), .val (.ref a_ABORT), .val (.ref a_ABORT), .val (.ref b3), .unset] [])) _
    refine XS.aload X3.here hx rfl (hb hby at_151) rfl rfl ?_
    show Steps p.tables e below (T3.setTop (mkF m 153 #[.val (.int p0), .val (.int p1), .val (.int (4 : Int32)), .val (.int (4 : Int32)), .val (.ref a_ABORT), .val (.ref a_ABORT), .val (.ref b3), .unset] [(.ref b3)])) _
    refine XS.iloadN X3.here hx rfl (hb hby at_153) rfl ?_
    show Steps p.tables e below (T3.setTop (mkF m 154 #[.val (.int p0), .val (.int p1), .val (.int (4 : Int32)), .val (.int (4 : Int32)), .val (.ref a_ABORT), .val (.ref a_ABORT), .val (.ref b3), .unset] [(.int (4 : Int32)), (.ref b3)])) _
    refine XS.iconst X3.here hx rfl (hb hby at_154) ?_
    show Steps p.tables e below (T3.setTop (mkF m 155 #[.val (.int p0), .val (.int p1), .val (.int (4 : Int32)), .val (.int (4 : Int32)), .val (.ref a_ABORT), .val (.ref a_ABORT), .val (.ref b3), .unset] [(.int (5 : Int32)), (.int (4 : Int32)), (.ref b3)])) _
    refine XS.imul X3.here hx rfl (hb hby at_155) rfl ?_
    show Steps p.tables e below (T3.setTop (mkF m 156 #[.val (.int p0), .val (.int p1), .val (.int (4 : Int32)), .val (.int (4 : Int32)), .val (.ref a_ABORT), .val (.ref a_ABORT), .val (.ref b3), .unset] [(.int ((4 : Int32) * (5 : Int32))), (.ref b3)])) _
    rw [(by decide : ((4 : Int32) * (5 : Int32)) = (20 : Int32))]
    show Steps p.tables e below (T3.setTop (mkF m 156 #[.val (.int p0), .val (.int p1), .val (.int (4 : Int32)), .val (.int (4 : Int32)), .val (.ref a_ABORT), .val (.ref a_ABORT), .val (.ref b3), .unset] [(.int (20 : Int32)), (.ref b3)])) _
    refine XS.iloadN X3.here hx rfl (hb hby at_156) rfl ?_
    show Steps p.tables e below (T3.setTop (mkF m 157 #[.val (.int p0), .val (.int p1), .val (.int (4 : Int32)), .val (.int (4 : Int32)), .val (.ref a_ABORT), .val (.ref a_ABORT), .val (.ref b3), .unset] [(.int (4 : Int32)), (.int (20 : Int32)), (.ref b3)])) _
    refine XS.iadd X3.here hx rfl (hb hby at_157) rfl ?_
    show Steps p.tables e below (T3.setTop (mkF m 158 #[.val (.int p0), .val (.int p1), .val (.int (4 : Int32)), .val (.int (4 : Int32)), .val (.ref a_ABORT), .val (.ref a_ABORT), .val (.ref b3), .unset] [(.int ((20 : Int32) + (4 : Int32))), (.ref b3)])) _
    rw [(by decide : ((20 : Int32) + (4 : Int32)) = (24 : Int32))]
    show Steps p.tables e below (T3.setTop (mkF m 158 #[.val (.int p0), .val (.int p1), .val (.int (4 : Int32)), .val (.int (4 : Int32)), .val (.ref a_ABORT), .val (.ref a_ABORT), .val (.ref b3), .unset] [(.int (24 : Int32)), (.ref b3)])) _
    refine X3.baloadBooleans hx (j := (24 : Int32)) (v := (.int (0 : Int32))) (by rw [e3]; exact r4.1) (State.isArrayOf_alike hZ.alike r4.2.1) r4.2.2 i4 y4 (g := (mkF m 158 #[.val (.int p0), .val (.int p1), .val (.int (4 : Int32)), .val (.int (4 : Int32)), .val (.ref a_ABORT), .val (.ref a_ABORT), .val (.ref b3), .unset] [(.int (24 : Int32)), (.ref b3)])) rfl rfl (hb hby at_158) _ ?_
    show Steps p.tables e below (T3.setTop (mkF m 159 #[.val (.int p0), .val (.int p1), .val (.int (4 : Int32)), .val (.int (4 : Int32)), .val (.ref a_ABORT), .val (.ref a_ABORT), .val (.ref b3), .unset] [(.int (0 : Int32))])) _
    refine XS.istore X3.here hx rfl (hb hby at_159) rfl (l' := #[.val (.int p0), .val (.int p1), .val (.int (4 : Int32)), .val (.int (4 : Int32)), .val (.ref a_ABORT), .val (.ref a_ABORT), .val (.ref b3), .val (.int (0 : Int32))]) rfl ?_
    show Steps p.tables e below (T3.setTop (mkF m 161 #[.val (.int p0), .val (.int p1), .val (.int (4 : Int32)), .val (.int (4 : Int32)), .val (.ref a_ABORT), .val (.ref a_ABORT), .val (.ref b3), .val (.int (0 : Int32))] [])) _
    refine XS.aload X3.here hx rfl (hb hby at_161) rfl rfl ?_
    show Steps p.tables e below (T3.setTop (mkF m 163 #[.val (.int p0), .val (.int p1), .val (.int (4 : Int32)), .val (.int (4 : Int32)), .val (.ref a_ABORT), .val (.ref a_ABORT), .val (.ref b3), .val (.int (0 : Int32))] [(.ref a_ABORT)])) _
    refine XS.aload X3.here hx rfl (hb hby at_163) rfl rfl ?_
    show Steps p.tables e below (T3.setTop (mkF m 165 #[.val (.int p0), .val (.int p1), .val (.int (4 : Int32)), .val (.int (4 : Int32)), .val (.ref a_ABORT), .val (.ref a_ABORT), .val (.ref b3), .val (.int (0 : Int32))] [(.ref a_ABORT), (.ref a_ABORT)])) _
    refine st5.trans ?_
    show Steps p.tables e below (T5.setTop (mkF m 168 #[.val (.int p0), .val (.int p1), .val (.int (4 : Int32)), .val (.int (4 : Int32)), .val (.ref a_ABORT), .val (.ref a_ABORT), .val (.ref b3), .val (.int (0 : Int32))] [(.int (0 : Int32))])) _
    refine XS.iload X5.here hx rfl (hb hby at_168) rfl ?_
    show Steps p.tables e below (T5.setTop (mkF m 170 #[.val (.int p0), .val (.int p1), .val (.int (4 : Int32)), .val (.int (4 : Int32)), .val (.ref a_ABORT), .val (.ref a_ABORT), .val (.ref b3), .val (.int (0 : Int32))] [(.int (0 : Int32)), (.int (0 : Int32))])) _
    refine XS.icmpNo X5.here hx rfl (hb hby at_170) rfl (by decide) ?_
    show Steps p.tables e below (T5.setTop (mkF m 173 #[.val (.int p0), .val (.int p1), .val (.int (4 : Int32)), .val (.int (4 : Int32)), .val (.ref a_ABORT), .val (.ref a_ABORT), .val (.ref b3), .val (.int (0 : Int32))] [])) _
    refine XS.iconst X5.here hx rfl (hb hby at_173) ?_
    show Steps p.tables e below (T5.setTop (mkF m 174 #[.val (.int p0), .val (.int p1), .val (.int (4 : Int32)), .val (.int (4 : Int32)), .val (.ref a_ABORT), .val (.ref a_ABORT), .val (.ref b3), .val (.int (0 : Int32))] [(.int (1 : Int32))])) _
    refine XS.goto X5.here hx rfl (pc0 := 174) (pc' := 178) rfl (hb hby at_174) (by decide) (by decide) ?_
    show Steps p.tables e below (T5.setTop (mkF m 178 #[.val (.int p0), .val (.int p1), .val (.int (4 : Int32)), .val (.int (4 : Int32)), .val (.ref a_ABORT), .val (.ref a_ABORT), .val (.ref b3), .val (.int (0 : Int32))] [(.int (1 : Int32))])) _
    exact retN X5 hx (t := .boolean) Bd.returns (by simp) (hb hby at_178) hr
  · exact ⟨rfl, N5⟩
theorem rm0 (l : Launch) (Z : State) (a0 : Array Value) (hw : ∀ d ∈ tables_1, d.before a0 Z = true) (ws : List Jvm.Cond) (p0 p1 : Int32) (a_READ a_COMMIT a_ABORT a_WRITE a_INCREMENT : Addr) (h0 : Heap) (n0 : Nat) (Z0 : n0 ≤ h0.size) (FF : Facts Z h0 a_READ a_COMMIT a_ABORT a_WRITE a_INCREMENT) :
    MetFree l x (head1 (Jvm.Cond.code x code maxLocals ret :: ws) room_1) (fun a U => a = #[(.int p0), (.int p1)] ∧ Z.Warmed39 U.vm ∧ U.heap = h0) (fun _ _ _ _ _ => True) (fun _ U o U' => ∃ v L, o = .returned v ∧ (v = some (.int (1 : Int32)) ∧ Fr n0 L) ∧ FrameEnd U o U' L room_1.cells room_1.slots) := by
  rcases own_split0 p0 with hk0 | hk0 | hk0 | hk0 | hk0
  · rcases own_split1 p1 with hk1 | hk1 | hk1 | hk1 | hk1
    · exact rm0_0 l Z a0 hw ws p0 p1 a_READ a_COMMIT a_ABORT a_WRITE a_INCREMENT h0 n0 Z0 FF hk0 hk1
    · exact rm0_1 l Z a0 hw ws p0 p1 a_READ a_COMMIT a_ABORT a_WRITE a_INCREMENT h0 n0 Z0 FF hk0 hk1
    · exact rm0_2 l Z a0 hw ws p0 p1 a_READ a_COMMIT a_ABORT a_WRITE a_INCREMENT h0 n0 Z0 FF hk0 hk1
    · exact rm0_3 l Z a0 hw ws p0 p1 a_READ a_COMMIT a_ABORT a_WRITE a_INCREMENT h0 n0 Z0 FF hk0 hk1
    · exact rm0_4 l Z a0 hw ws p0 p1 a_READ a_COMMIT a_ABORT a_WRITE a_INCREMENT h0 n0 Z0 FF hk0 hk1
  · rcases own_split1 p1 with hk1 | hk1 | hk1 | hk1 | hk1
    · exact rm0_5 l Z a0 hw ws p0 p1 a_READ a_COMMIT a_ABORT a_WRITE a_INCREMENT h0 n0 Z0 FF hk0 hk1
    · exact rm0_6 l Z a0 hw ws p0 p1 a_READ a_COMMIT a_ABORT a_WRITE a_INCREMENT h0 n0 Z0 FF hk0 hk1
    · exact rm0_7 l Z a0 hw ws p0 p1 a_READ a_COMMIT a_ABORT a_WRITE a_INCREMENT h0 n0 Z0 FF hk0 hk1
    · exact rm0_8 l Z a0 hw ws p0 p1 a_READ a_COMMIT a_ABORT a_WRITE a_INCREMENT h0 n0 Z0 FF hk0 hk1
    · exact rm0_9 l Z a0 hw ws p0 p1 a_READ a_COMMIT a_ABORT a_WRITE a_INCREMENT h0 n0 Z0 FF hk0 hk1
  · rcases own_split1 p1 with hk1 | hk1 | hk1 | hk1 | hk1
    · exact rm0_10 l Z a0 hw ws p0 p1 a_READ a_COMMIT a_ABORT a_WRITE a_INCREMENT h0 n0 Z0 FF hk0 hk1
    · exact rm0_11 l Z a0 hw ws p0 p1 a_READ a_COMMIT a_ABORT a_WRITE a_INCREMENT h0 n0 Z0 FF hk0 hk1
    · exact rm0_12 l Z a0 hw ws p0 p1 a_READ a_COMMIT a_ABORT a_WRITE a_INCREMENT h0 n0 Z0 FF hk0 hk1
    · exact rm0_13 l Z a0 hw ws p0 p1 a_READ a_COMMIT a_ABORT a_WRITE a_INCREMENT h0 n0 Z0 FF hk0 hk1
    · exact rm0_14 l Z a0 hw ws p0 p1 a_READ a_COMMIT a_ABORT a_WRITE a_INCREMENT h0 n0 Z0 FF hk0 hk1
  · rcases own_split1 p1 with hk1 | hk1 | hk1 | hk1 | hk1
    · exact rm0_15 l Z a0 hw ws p0 p1 a_READ a_COMMIT a_ABORT a_WRITE a_INCREMENT h0 n0 Z0 FF hk0 hk1
    · exact rm0_16 l Z a0 hw ws p0 p1 a_READ a_COMMIT a_ABORT a_WRITE a_INCREMENT h0 n0 Z0 FF hk0 hk1
    · exact rm0_17 l Z a0 hw ws p0 p1 a_READ a_COMMIT a_ABORT a_WRITE a_INCREMENT h0 n0 Z0 FF hk0 hk1
    · exact rm0_18 l Z a0 hw ws p0 p1 a_READ a_COMMIT a_ABORT a_WRITE a_INCREMENT h0 n0 Z0 FF hk0 hk1
    · exact rm0_19 l Z a0 hw ws p0 p1 a_READ a_COMMIT a_ABORT a_WRITE a_INCREMENT h0 n0 Z0 FF hk0 hk1
  · rcases own_split1 p1 with hk1 | hk1 | hk1 | hk1 | hk1
    · exact rm0_20 l Z a0 hw ws p0 p1 a_READ a_COMMIT a_ABORT a_WRITE a_INCREMENT h0 n0 Z0 FF hk0 hk1
    · exact rm0_21 l Z a0 hw ws p0 p1 a_READ a_COMMIT a_ABORT a_WRITE a_INCREMENT h0 n0 Z0 FF hk0 hk1
    · exact rm0_22 l Z a0 hw ws p0 p1 a_READ a_COMMIT a_ABORT a_WRITE a_INCREMENT h0 n0 Z0 FF hk0 hk1
    · exact rm0_23 l Z a0 hw ws p0 p1 a_READ a_COMMIT a_ABORT a_WRITE a_INCREMENT h0 n0 Z0 FF hk0 hk1
    · exact rm0_24 l Z a0 hw ws p0 p1 a_READ a_COMMIT a_ABORT a_WRITE a_INCREMENT h0 n0 Z0 FF hk0 hk1
set_option maxRecDepth 65536 in
set_option maxHeartbeats 40000000 in
theorem comes_1 {Post : Tables → Env → Array Value → State → Outcome → State → Prop} (hpost : ∀ tb e args s v u, (limb_1_1.after args s (.returned v) u = true ∧ limb_1_2.after args s (.returned v) u = true ∧ True) → FrameEnd s (.returned v) u (Jvm.fieldLocs frame_1_writes args s ++ Jvm.arrayLocs frame_1_arrays args s ++ Jvm.staticLocs frame_1_statics s) 16 128 → Post tb e args s (.returned v) u) :
    ArmFor flags0 classFile x code maxLocals ret World_1 tables_1 room_1 Calls_1 rest_1 Pre_1 Post := by
  intro l hfl _ _ p e ha hc hk s m args below hf hA hF happ hP
  obtain ⟨hcalls, hrest, hpre⟩ := hP
  obtain ⟨-, -, -, hnamed, -, -, -, hat⟩ := (Spec.applies_iff hf).mp happ
  obtain ⟨hg, hn⟩ := and_e (Cond.before_iff.mp (show (Jvm.Cond.and given_1 narrow_1).before args s = true from hpre))
  obtain ⟨gc, gr0⟩ := and_e hg
  obtain ⟨gi0, gr1⟩ := and_e gr0
  obtain ⟨w0, w1, rfl⟩ : ∃ w0 w1 : Value, args = #[w0, w1] := by
    have hs : args.size = 2 := by simpa [Cond.value, given_1] using gc
    obtain ⟨L⟩ := args
    match L, hs with
    | [w0, w1], _ => exact ⟨w0, w1, rfl⟩
  have hw := fun d (hd : d ∈ tables_1) => atoms_spec (ws := Jvm.Cond.code x code maxLocals ret :: tables_1) hat d (List.mem_cons_of_mem _ hd)
  obtain ⟨i0, ei0⟩ := is_v gi0
  obtain rfl : w0 = (.int i0) := Option.some.inj ei0
  obtain ⟨i1, ei1⟩ := is_v gr1
  obtain rfl : w1 = (.int i1) := Option.some.inj ei1
  obtain ⟨na1, nb1⟩ := and_e hn
  obtain ⟨na2, nb2⟩ := and_e nb1
  obtain ⟨na3, nb3⟩ := and_e nb2
  obtain ⟨na4, nb4⟩ := and_e nb3
  obtain ⟨na5, nb5⟩ := and_e nb4
  obtain ⟨na6, nb6⟩ := and_e nb5
  obtain ⟨na7, nb7⟩ := and_e nb6
  obtain ⟨na8, nb8⟩ := and_e nb7
  obtain ⟨na9, nb9⟩ := and_e nb8
  obtain ⟨na10, nb10⟩ := and_e nb9
  obtain ⟨na11, nb11⟩ := and_e nb10
  obtain ⟨na12, nb12⟩ := and_e nb11
  obtain ⟨na13, nb13⟩ := and_e nb12
  obtain ⟨na14, nb14⟩ := and_e nb13
  obtain ⟨na15, nb15⟩ := and_e nb14
  obtain ⟨na16, nb16⟩ := and_e nb15
  obtain ⟨na17, nb17⟩ := and_e nb16
  obtain ⟨a_READ, ev_a_READ⟩ := exa_v na1
  obtain ⟨a_COMMIT, ev_a_COMMIT⟩ := exa_v na2
  obtain ⟨a_ABORT, ev_a_ABORT⟩ := exa_v na5
  obtain ⟨a_WRITE, ev_a_WRITE⟩ := exa_v na6
  obtain ⟨a_INCREMENT, ev_a_INCREMENT⟩ := exa_v na12
  have FF : Facts s s.heap a_READ a_COMMIT a_ABORT a_WRITE a_INCREMENT := ⟨Sta.start ev_a_READ (Or.inr ⟨(hw _ (List.mem_of_getElem? (i := 6) rfl)), (hw _ (List.mem_of_getElem? (i := 7) rfl))⟩), Exa.start ev_a_READ na1, Sta.start ev_a_COMMIT (Or.inr ⟨(hw _ (List.mem_of_getElem? (i := 6) rfl)), (hw _ (List.mem_of_getElem? (i := 9) rfl))⟩), Exa.start ev_a_COMMIT na2, Fld.start ((fld_at ev_a_READ).symm.trans (own_eqi na3)), Fld.start ((fld_at ev_a_COMMIT).symm.trans (own_eqi na4)), Sta.start ev_a_ABORT (Or.inr ⟨(hw _ (List.mem_of_getElem? (i := 6) rfl)), (hw _ (List.mem_of_getElem? (i := 19) rfl))⟩), Exa.start ev_a_ABORT na5, Sta.start ev_a_WRITE (Or.inr ⟨(hw _ (List.mem_of_getElem? (i := 6) rfl)), (hw _ (List.mem_of_getElem? (i := 21) rfl))⟩), Exa.start ev_a_WRITE na6, Fld.start ((fld_at ev_a_ABORT).symm.trans (own_eqi na7)), Fld.start ((fld_at ev_a_WRITE).symm.trans (own_eqi na8)), Fld.start ((fld_at ev_a_WRITE).symm.trans (own_eqi na9)), Fld.start ((fld_at ev_a_WRITE).symm.trans (own_eqi na10)), Fld.start ((fld_at ev_a_READ).symm.trans (own_eqi na11)), Sta.start ev_a_INCREMENT (Or.inr ⟨(hw _ (List.mem_of_getElem? (i := 6) rfl)), (hw _ (List.mem_of_getElem? (i := 25) rfl))⟩), Exa.start ev_a_INCREMENT na12, Fld.start ((fld_at ev_a_INCREMENT).symm.trans (own_eqi na13)), Fld.start ((fld_at ev_a_INCREMENT).symm.trans (own_eqi na14)), Fld.start ((fld_at ev_a_READ).symm.trans (own_eqi na15)), Fld.start ((fld_at ev_a_INCREMENT).symm.trans (own_eqi na16)), Fld.start ((fld_at ev_a_COMMIT).symm.trans (own_eqi na17)), Fld.start ((fld_at ev_a_ABORT).symm.trans (own_eqi nb17))⟩
  obtain ⟨n, o, h1, h2, h3, _, L, rfl, ⟨rfl, N⟩, hq⟩ := rm0 l s _ hw tables_1 i0 i1 a_READ a_COMMIT a_ABORT a_WRITE a_INCREMENT s.heap s.heap.size (Nat.le_refl _) FF p e ha hc hk s m _ below hf ((Spec.applies_iff_loose hf).mp happ).1 ⟨rfl, State.Warmed39.refl s, rfl⟩ trivial
  refine ⟨n, _, h1, h2, h3, hpost _ _ _ _ _ _ ⟨Cond.after_iff.mpr rfl, Cond.after_iff.mpr (eq_i res_at (Term.int_eval (1)) rfl), trivial⟩ ⟨hq.1, hq.2.1, (hq.2.2.sift fun y hy => Or.inr (N y hy)).mono (by decide) (by decide)⟩⟩
theorem main_1_1 : Claimed_1_1 := comes_1 fun _ _ _ _ _ _ h hF => ⟨h.1, hF⟩
theorem main_1_2 : Claimed_1_2 := comes_1 fun _ _ _ _ _ _ h hF => ⟨h.2.1, hF⟩
end Jvm.Pilot.@@N@@
namespace Jvm.Pilot.@@N@@
open Jvm Jvm.ClassFile Sem Op Lib Jvm.Free Jvm.Stand Jvm.Pilot.@@N@@.Jvm.D
/-! MADE BY PROGRAM (witnessworld.py) out of the Statement's table words and the real class files: 14 classes; the members and pool entries that the words name. The judged class is class 1, her method 1. -/
namespace start1
open Jvm.ClassFile
def u (s : String) : CpInfo := .utf8 (stringToUtf16 s)
/-- a pool by its gaps: so many unusable entries, then the entry; so many at the end -/
def gap : Nat → List CpInfo → List CpInfo
  | 0, r => r
  | n + 1, r => .unusable :: gap n r
def poolList (es : List (Nat × CpInfo)) (last : Nat) : List CpInfo := es.foldr (fun e r => gap e.1 (e.2 :: r)) (gap last [])
def pool (es : List (Nat × CpInfo)) (last : Nat) : Array CpInfo := ⟨poolList es last⟩
def fileOf (pool : Array CpInfo) (this : Nat) (attrs : Array Attribute := #[]) (ms : Array MethodInfo := #[]) (fl : Nat := 33) (sup : Nat := 0) (ifs : Array Nat := #[]) (fds : Array FieldInfo := #[]) : ClassFile where
  minorVersion := 0
  majorVersion := 65
  constantPool := pool
  accessFlags := fl
  thisClass := this
  superClass := sup
  interfaces := ifs
  fields := fds
  methods := ms
  attributes := attrs
def plain (name : String) (sup : Option ClassId) : Class where
  name := name
  kind := .ordinary
  loader := none
  accessFlags := 33
  super := sup
  interfaces := #[]
  cf := none
  fields := #[]
  methods := #[]
  instanceTypes := #[]
  staticTypes := #[]
  resolved := #[]
  callSites := []
  init := .initialized
  statics := none
  mirror := none

def pool0 : Array CpInfo := pool [(5, u "<init>"), (0, u "()V"), (1, .class_ 10), (1, u "java/lang/Object")] 113

def k0m0 : Method := { name := "<init>", desc := "()V", sig := { parameters := [], returnType := none }, accessFlags := 1, code := none }
/-- java/lang/Object -/
def k0 : Class := { plain "java/lang/Object" none with
  accessFlags := 33
  interfaces := #[]
  cf := some (fileOf pool0 8 #[] #[{ accessFlags := 1, nameIndex := 5, descriptorIndex := 6, attributes := #[] }] 33 0 #[] #[])
  fields := #[]
  methods := #[k0m0]
  instanceTypes := #[]
  staticTypes := #[]
  resolved := Array.replicate 124 none
  statics := none }

def pool1 : Array CpInfo := pool [(2, .class_ 4), (1, u "java/lang/Object"), (0, u "<init>"), (0, u "()V"), (0, .integer 2147483647), (0, .methodref 9 10), (0, .class_ 11), (0, .nameAndType 12 13), (0, u "com/example/schedulock/schedulock/schedule/OperationKindConflictsWithPinLaw"), (0, u "kind"), (0, u "(I)Lcom/example/schedulock/schedulock/schedule/OperationKind;"), (0, .methodref 15 16), (0, .class_ 17), (0, .nameAndType 18 19), (0, u "com/example/schedulock/schedulock/schedule/OperationKind"), (0, u "conflictsWith"), (0, u "(Lcom/example/schedulock/schedulock/schedule/OperationKind;)Z"), (0, .fieldref 15 21), (0, .nameAndType 22 23), (0, u "READ"), (0, u "Lcom/example/schedulock/schedulock/schedule/OperationKind;"), (0, .fieldref 15 25), (0, .nameAndType 26 23), (0, u "WRITE"), (0, .fieldref 15 28), (0, .nameAndType 29 23), (0, u "INCREMENT"), (0, .fieldref 15 31), (0, .nameAndType 32 23), (0, u "COMMIT"), (0, .fieldref 15 34), (0, .nameAndType 35 23), (0, u "ABORT"), (2, u "law"), (0, u "(II)Z")] 5

def k1m0 : Method := { name := "<init>", desc := "()V", sig := { parameters := [], returnType := none }, accessFlags := 1, code := none }
def k1c1 : Code := { maxStack := 4, maxLocals := 8, code := code, exceptionTable := #[], attributes := #[] }
def k1m1 : Method := { name := "law", desc := "(II)Z", sig := { parameters := [.int, .int], returnType := some .boolean }, accessFlags := 9, code := some k1c1 }
def k1c2 : Code := { maxStack := 2, maxLocals := 1, code := method_3_code, exceptionTable := #[], attributes := #[] }
def k1m2 : Method := { name := "kind", desc := "(I)Lcom/example/schedulock/schedulock/schedule/OperationKind;", sig := { parameters := [.int], returnType := some (.object "com/example/schedulock/schedulock/schedule/OperationKind") }, accessFlags := 10, code := some k1c2 }
/-- com/example/schedulock/schedulock/schedule/OperationKindConflictsWithPinLaw -/
def k1 : Class := { plain "com/example/schedulock/schedulock/schedule/OperationKindConflictsWithPinLaw" (some 0) with
  accessFlags := 49
  interfaces := #[]
  cf := some (fileOf pool1 9 #[] #[{ accessFlags := 1, nameIndex := 5, descriptorIndex := 6, attributes := #[] }, { accessFlags := 9, nameIndex := 38, descriptorIndex := 39, attributes := #[] }, { accessFlags := 10, nameIndex := 12, descriptorIndex := 13, attributes := #[] }] 49 2 #[] #[])
  fields := #[]
  methods := #[k1m0, k1m1, k1m2]
  instanceTypes := #[]
  staticTypes := #[]
  resolved := Array.replicate 45 none
  statics := none }

def pool2 : Array CpInfo := pool [(1, .class_ 2), (0, u "java/lang/constant/Constable"), (0, .class_ 4), (0, u "java/lang/Object")] 6

/-- java/lang/constant/Constable -/
def k2 : Class := { plain "java/lang/constant/Constable" (some 0) with
  accessFlags := 1537
  interfaces := #[]
  cf := some (fileOf pool2 1 #[] #[] 1537 3 #[] #[])
  fields := #[]
  methods := #[]
  instanceTypes := #[]
  staticTypes := #[]
  resolved := Array.replicate 11 none
  statics := none }

def pool3 : Array CpInfo := pool [(1, .class_ 2), (0, u "java/lang/Comparable"), (0, .class_ 4), (0, u "java/lang/Object")] 7

/-- java/lang/Comparable -/
def k3 : Class := { plain "java/lang/Comparable" (some 0) with
  accessFlags := 1537
  interfaces := #[]
  cf := some (fileOf pool3 1 #[] #[] 1537 3 #[] #[])
  fields := #[]
  methods := #[]
  instanceTypes := #[]
  staticTypes := #[]
  resolved := Array.replicate 12 none
  statics := none }

def pool4 : Array CpInfo := pool [(1, .class_ 2), (0, u "java/io/Serializable"), (0, .class_ 4), (0, u "java/lang/Object")] 2

/-- java/io/Serializable -/
def k4 : Class := { plain "java/io/Serializable" (some 0) with
  accessFlags := 1537
  interfaces := #[]
  cf := some (fileOf pool4 1 #[] #[] 1537 3 #[] #[])
  fields := #[]
  methods := #[]
  instanceTypes := #[]
  staticTypes := #[]
  resolved := Array.replicate 7 none
  statics := none }

def pool5 : Array CpInfo := pool [(2, .class_ 4), (1, u "java/lang/Enum"), (0, u "name"), (0, u "Ljava/lang/String;"), (2, u "ordinal"), (0, u "I"), (1, .class_ 14), (1, u "java/lang/Object"), (4, u "hash"), (86, .class_ 108), (1, u "java/lang/Enum$EnumDesc"), (2, .class_ 112), (0, u "java/lang/constant/Constable"), (0, .class_ 114), (0, u "java/lang/Comparable"), (0, .class_ 116), (0, u "java/io/Serializable")] 87

/-- java/lang/Enum -/
def k5 : Class := { plain "java/lang/Enum" (some 0) with
  accessFlags := 1057
  interfaces := #[2, 3, 4]
  cf := some (fileOf pool5 2 #[.nestMembers #[106]] #[] 1057 12 #[111, 113, 115] #[{ accessFlags := 18, nameIndex := 5, descriptorIndex := 6, attributes := #[] }, { accessFlags := 18, nameIndex := 9, descriptorIndex := 10, attributes := #[] }, { accessFlags := 2, nameIndex := 19, descriptorIndex := 10, attributes := #[] }])
  fields := #[{ name := "name", type := (.object "java/lang/String"), accessFlags := 18, slot := 0, constantValue := 0 }, { name := "ordinal", type := .int, accessFlags := 18, slot := 1, constantValue := 0 }, { name := "hash", type := .int, accessFlags := 2, slot := 2, constantValue := 0 }]
  methods := #[]
  instanceTypes := #[(.object "java/lang/String"), .int, .int]
  staticTypes := #[]
  resolved := Array.replicate 204 none
  statics := none }

def pool6 : Array CpInfo := pool [(1, .class_ 2), (0, u "com/example/schedulock/schedulock/schedule/OperationKind"), (2, u "READ"), (0, u "Lcom/example/schedulock/schedulock/schedule/OperationKind;"), (2, u "WRITE"), (2, u "INCREMENT"), (2, u "COMMIT"), (2, u "ABORT"), (2, u "$VALUES"), (0, u "[Lcom/example/schedulock/schedulock/schedule/OperationKind;"), (6, .class_ 31), (1, u "java/lang/Enum"), (8, u "symbol"), (0, u "Ljava/lang/String;"), (0, .fieldref 1 43), (0, .nameAndType 44 45), (0, u "takesItem"), (0, u "Z"), (0, .fieldref 1 47), (0, .nameAndType 48 45), (0, u "commutesWithItself"), (60, u "conflictsWith"), (0, u "(Lcom/example/schedulock/schedulock/schedule/OperationKind;)Z")] 10

def k6c0 : Code := { maxStack := 2, maxLocals := 2, code := prog_31_method_5_code, exceptionTable := #[], attributes := #[] }
def k6m0 : Method := { name := "conflictsWith", desc := "(Lcom/example/schedulock/schedulock/schedule/OperationKind;)Z", sig := { parameters := [(.object "com/example/schedulock/schedulock/schedule/OperationKind")], returnType := some .boolean }, accessFlags := 1, code := some k6c0 }
/-- com/example/schedulock/schedulock/schedule/OperationKind -/
def k6 : Class := { plain "com/example/schedulock/schedulock/schedule/OperationKind" (some 5) with
  accessFlags := 16433
  interfaces := #[]
  cf := some (fileOf pool6 1 #[] #[{ accessFlags := 1, nameIndex := 109, descriptorIndex := 110, attributes := #[] }] 16433 29 #[] #[{ accessFlags := 16409, nameIndex := 5, descriptorIndex := 6, attributes := #[] }, { accessFlags := 16409, nameIndex := 9, descriptorIndex := 6, attributes := #[] }, { accessFlags := 16409, nameIndex := 12, descriptorIndex := 6, attributes := #[] }, { accessFlags := 16409, nameIndex := 15, descriptorIndex := 6, attributes := #[] }, { accessFlags := 16409, nameIndex := 18, descriptorIndex := 6, attributes := #[] }, { accessFlags := 18, nameIndex := 40, descriptorIndex := 41, attributes := #[] }, { accessFlags := 18, nameIndex := 44, descriptorIndex := 45, attributes := #[] }, { accessFlags := 18, nameIndex := 48, descriptorIndex := 45, attributes := #[] }, { accessFlags := 4122, nameIndex := 21, descriptorIndex := 22, attributes := #[] }])
  fields := #[{ name := "READ", type := (.object "com/example/schedulock/schedulock/schedule/OperationKind"), accessFlags := 16409, slot := 0, constantValue := 0 }, { name := "WRITE", type := (.object "com/example/schedulock/schedulock/schedule/OperationKind"), accessFlags := 16409, slot := 1, constantValue := 0 }, { name := "INCREMENT", type := (.object "com/example/schedulock/schedulock/schedule/OperationKind"), accessFlags := 16409, slot := 2, constantValue := 0 }, { name := "COMMIT", type := (.object "com/example/schedulock/schedulock/schedule/OperationKind"), accessFlags := 16409, slot := 3, constantValue := 0 }, { name := "ABORT", type := (.object "com/example/schedulock/schedulock/schedule/OperationKind"), accessFlags := 16409, slot := 4, constantValue := 0 }, { name := "symbol", type := (.object "java/lang/String"), accessFlags := 18, slot := 3, constantValue := 0 }, { name := "takesItem", type := .boolean, accessFlags := 18, slot := 4, constantValue := 0 }, { name := "commutesWithItself", type := .boolean, accessFlags := 18, slot := 5, constantValue := 0 }, { name := "$VALUES", type := (.array (.object "com/example/schedulock/schedulock/schedule/OperationKind")), accessFlags := 4122, slot := 5, constantValue := 0 }]
  methods := #[k6m0]
  instanceTypes := #[(.object "java/lang/String"), .int, .int, (.object "java/lang/String"), .boolean, .boolean]
  staticTypes := #[(.object "com/example/schedulock/schedulock/schedule/OperationKind"), (.object "com/example/schedulock/schedulock/schedule/OperationKind"), (.object "com/example/schedulock/schedulock/schedule/OperationKind"), (.object "com/example/schedulock/schedulock/schedule/OperationKind"), (.object "com/example/schedulock/schedulock/schedule/OperationKind"), (.array (.object "com/example/schedulock/schedulock/schedule/OperationKind"))]
  resolved := Array.replicate 121 none
  statics := some 0 }

def pool7 : Array CpInfo := pool [(1, u "java/lang/Cloneable"), (0, .class_ 1), (0, u "java/lang/Object"), (0, .class_ 3)] 3

/-- java/lang/Cloneable -/
def k7 : Class := { plain "java/lang/Cloneable" (some 0) with
  accessFlags := 1537
  interfaces := #[]
  cf := some (fileOf pool7 2 #[] #[] 1537 4 #[] #[])
  fields := #[]
  methods := #[]
  instanceTypes := #[]
  staticTypes := #[]
  resolved := Array.replicate 8 none
  statics := none }

/-- the primitive boolean -/
def k8 : Class := { plain "boolean" none with kind := .primitive 'Z', accessFlags := 0x411 }
/-- [Z -/
def k9 : Class := { plain "[Z" (some 0) with kind := .array 8 .boolean, interfaces := #[7, 4], accessFlags := 1041 }

/-- the primitive byte -/
def k10 : Class := { plain "byte" none with kind := .primitive 'B', accessFlags := 0x411 }
/-- [B -/
def k11 : Class := { plain "[B" (some 0) with kind := .array 10 .byte, interfaces := #[7, 4], accessFlags := 1041 }

/-- the primitive int -/
def k12 : Class := { plain "int" none with kind := .primitive 'I', accessFlags := 0x411 }
/-- [I -/
def k13 : Class := { plain "[I" (some 0) with kind := .array 12 .int, interfaces := #[7, 4], accessFlags := 1041 }

def heap : Heap := #[{ cls := 6, slots := #[.ref 1, .ref 4, .ref 5, .ref 2, .ref 3, .null], vm := .statics 6 },
  { cls := 6, slots := #[.null, .int 0, .int 0, .null, .int 1, .int 1], vm := .none },
  { cls := 6, slots := #[.null, .int 0, .int 0, .null, .int 0, .int 0], vm := .none },
  { cls := 6, slots := #[.null, .int 0, .int 0, .null, .int 0, .int 0], vm := .none },
  { cls := 6, slots := #[.null, .int 1, .int 0, .null, .int 1, .int 0], vm := .none },
  { cls := 6, slots := #[.null, .int 2, .int 0, .null, .int 1, .int 1], vm := .none }]
def classes : Array Class := #[k0, k1, k2, k3, k4, k5, k6, k7, k8, k9, k10, k11, k12, k13]
def interned : List (Array UInt16 × Addr) := []
def slotsUsed : Nat := 36
def theMethod : MethodId := ⟨1, 1⟩
def args0 : Array Value := #[.int 5, .int 5]
def aboutOver (below : List Frame) : State where
  vm := { classes := classes, interned := interned.toArray }
  heap := heap
  slotsUsed := slotsUsed
  threads := #[{ frames := .invoking theMethod args0 :: below }]
def below0 : List Frame := [.native { method := ⟨0, 0⟩, args := #[] }]
def about1 : State := aboutOver below0
def p0 : Program := .bare "" "" ""
def e0 : Env := launch0.env 0 0 0
theorem w_frames : about1.frames = Frame.invoking theMethod args0 :: below0 := rfl
set_option maxRecDepth 65536 in
theorem w_args : argsFit about1.vm theMethod args0 = true := by decide +kernel
set_option maxRecDepth 65536 in
theorem w_heap : heapFits about1 = true := by decide +kernel
set_option maxRecDepth 65536 in
theorem w_runnable : about1.curStatus? = some .runnable := by decide +kernel
set_option maxRecDepth 65536 in
theorem w_alone : about1.alone = true := by decide +kernel
set_option maxRecDepth 65536 in
theorem w_named : about1.methodNamed? x = some theMethod := by decide +kernel
set_option maxRecDepth 65536 in
theorem w_hears : about1.hears theMethod below0 = true := by decide +kernel
set_option maxRecDepth 65536 in
theorem w_ripe : about1.ripe theMethod args0 below0 = true := by decide +kernel
theorem w_running : about1.status = .running := rfl
set_option maxRecDepth 65536 in
theorem w_room : about1.hasRoom e0.platform room_1 = true :=
  launch0.hasRoom_least _ room_1 (by decide +kernel) (by decide +kernel) (by decide +kernel) (by decide +kernel) (by decide +kernel) (by decide +kernel)
theorem allAtoms_all (ts : List Jvm.Cond) (a : Array Jvm.Value) (st : Jvm.State) : (allAtoms ts).before a st = ts.all (fun c => c.before a st) := by
  induction ts with
  | nil => rfl
  | cons c t ih =>
    show (Jvm.Cond.and c (allAtoms t)).before a st = _
    rw [Jvm.Cond.before_and, ih, List.all_cons]
def words1 : List Jvm.Cond := Jvm.Cond.code x code maxLocals ret :: tables_1
/-- a 'code' word, met by the world's own term for the bytes: nothing is compared byte by byte -/
theorem code_word {y : MethodName} {bytes : ByteArray} {mx : Nat} {rt : Option FieldType} {a : Array Value} {s : State} {m : MethodId} {meth : Method} {c : Code} (h1 : s.methodNamed? y = some m) (h2 : s.vm.method? m = some meth) (h3 : meth.code = some c) (h4 : c.code = bytes)
    (h5 : (c.maxLocals == mx && c.exceptionTable.isEmpty && decide (c.maxStack ≤ mostOperands) && decide (meth.sig.returnType = rt) && !meth.locks && decide (parseMethodDescriptor y.desc = some meth.sig)) = true) : (Jvm.Cond.code y bytes mx rt).before a s = true := by
  simp only [Bool.and_eq_true, beq_iff_eq, Bool.not_eq_true', decide_eq_true_eq] at h5
  obtain ⟨⟨⟨⟨⟨g1, g2⟩, g3⟩, g4⟩, g5⟩, g6⟩ := h5
  simp [Cond.before, Cond.holds, Cond.value, h1, h2, h3, h4, g1, g2, g3, g4, g5, g6]
def isCode : Jvm.Cond → Bool
  | .code _ _ _ _ => true
  | _ => false
theorem all_split {L : List Jvm.Cond} {P : Jvm.Cond → Bool} (h1 : L.all (fun c => isCode c || P c) = true) (h2 : ∀ c ∈ L.filter isCode, P c = true) : L.all P = true := by
  refine List.all_eq_true.mpr fun c hc => ?_
  have h := List.all_eq_true.mp h1 c hc
  rcases Bool.eq_false_or_eq_true (isCode c) with hi | hi
  · exact h2 c (List.mem_filter.mpr ⟨hc, hi⟩)
  · simpa [hi] using h
set_option maxRecDepth 65536 in
theorem w_c0 : (Jvm.Cond.code x code maxLocals ret).before args0 about1 = true := code_word (m := ⟨1, 1⟩) (meth := k1m1) (c := k1c1) (by decide +kernel) rfl rfl rfl (by decide +kernel)
set_option maxRecDepth 65536 in
theorem w_c1 : (Jvm.Cond.code ({ cls := "com/example/schedulock/schedulock/schedule/OperationKindConflictsWithPinLaw", name := "kind", desc := "(I)Lcom/example/schedulock/schedulock/schedule/OperationKind;" } : Jvm.MethodName) method_3_code (1 : Nat) (Option.some (Jvm.ClassFile.FieldType.object "com/example/schedulock/schedulock/schedule/OperationKind"))).before args0 about1 = true := code_word (m := ⟨1, 2⟩) (meth := k1m2) (c := k1c2) (by decide +kernel) rfl rfl rfl (by decide +kernel)
set_option maxRecDepth 65536 in
theorem w_c2 : (Jvm.Cond.code ({ cls := "com/example/schedulock/schedulock/schedule/OperationKind", name := "conflictsWith", desc := "(Lcom/example/schedulock/schedulock/schedule/OperationKind;)Z" } : Jvm.MethodName) prog_31_method_5_code (2 : Nat) (Option.some Jvm.ClassFile.FieldType.boolean)).before args0 about1 = true := code_word (m := ⟨6, 0⟩) (meth := k6m0) (c := k6c0) (by decide +kernel) rfl rfl rfl (by decide +kernel)
def codes1 : List Jvm.Cond := [Jvm.Cond.code x code maxLocals ret, Jvm.Cond.code ({ cls := "com/example/schedulock/schedulock/schedule/OperationKindConflictsWithPinLaw", name := "kind", desc := "(I)Lcom/example/schedulock/schedulock/schedule/OperationKind;" } : Jvm.MethodName) method_3_code (1 : Nat) (Option.some (Jvm.ClassFile.FieldType.object "com/example/schedulock/schedulock/schedule/OperationKind")), Jvm.Cond.code ({ cls := "com/example/schedulock/schedulock/schedule/OperationKind", name := "conflictsWith", desc := "(Lcom/example/schedulock/schedulock/schedule/OperationKind;)Z" } : Jvm.MethodName) prog_31_method_5_code (2 : Nat) (Option.some Jvm.ClassFile.FieldType.boolean)]
set_option maxRecDepth 65536 in
theorem codes_eq : words1.filter isCode = codes1 := rfl
theorem w_codes : ∀ c ∈ words1.filter isCode, c.before args0 about1 = true := by
  rw [codes_eq]
  intro c hc
  simp only [codes1, List.mem_cons, List.not_mem_nil, or_false] at hc
  rcases hc with rfl | rfl | rfl
  · exact w_c0
  · exact w_c1
  · exact w_c2
set_option maxRecDepth 65536 in
theorem w_t1 : (words1.take 24).all (fun c => isCode c || c.before args0 about1) = true := by decide +kernel
set_option maxRecDepth 65536 in
theorem w_t2 : (words1.drop 24).all (fun c => isCode c || c.before args0 about1) = true := by decide +kernel
theorem w_tables : (allAtoms (Jvm.Cond.code x code maxLocals ret :: tables_1)).before args0 about1 = true := by
  rw [allAtoms_all]
  show words1.all (fun c => c.before args0 about1) = true
  refine all_split ?_ w_codes
  rw [← List.take_append_drop 24 words1, List.all_append, w_t1, w_t2]
  rfl
set_option maxRecDepth 65536 in
theorem w_case : (Jvm.Cond.and given_1 narrow_1).before args0 about1 = true := by decide +kernel
theorem w_applies : (headSpec (Jvm.Cond.code x code maxLocals ret :: tables_1) room_1).applies x e0.platform about1 = true :=
  (Spec.applies_iff w_frames).mpr ⟨w_running, w_runnable, w_alone, w_named, w_hears, w_ripe, w_room, w_tables⟩
theorem atStart : AtStart classFile x code maxLocals ret World_1 tables_1 room_1 Calls_1 rest_1 Pre_1 launch0 p0 e0 about1 theMethod args0 below0 :=
  ⟨lists_1, trivial, launch0.admits_env _ _ _, launch0.least_env, fairChoices_fair.cas, fairChoices_fair.clock, w_frames, w_args, w_heap, w_applies, trivial, trivial, w_case⟩
end start1
theorem witness_1 : WitnessClaimed_1 := ⟨start1.p0, start1.e0, start1.about1, start1.theMethod, start1.args0, start1.below0, start1.atStart⟩
end Jvm.Pilot.@@N@@

import JvmDerived
import JvmDerived.Pilot.@@N@@Statement
import JvmDerived.Pilot.@@N@@Code
set_option linter.unusedVariables false
set_option linter.unusedSimpArgs false
namespace Jvm.Pilot.@@N@@
open Jvm Jvm.ClassFile Sem Op Lib Jvm.Free Jvm.Stand Jvm.LawKit Jvm.RoadKit Bundle Jvm.Pilot.@@N@@.Jvm.D
theorem own_lit {r c : Int32} {v : Int} (e : c.toInt = v) (h : r.toInt = v) : r = c := Int32.toInt_inj.mp (h.trans e.symm)
theorem own_eqi {args : Array Value} {first s : State} {o : Option Outcome} {idx : List Nat} {t : Jvm.Term} {n : Int32} (h : (Jvm.Cond.eq t (Jvm.Term.int n)).value args first o s idx = some true) : t.eval args first o idx s = some (.int n) := by
  obtain ⟨x, y, h1, h2, h3, -⟩ := cmp_v (Or.inl h)
  have h4 := h2.symm.trans (Term.int_eval n)
  cases h4
  cases x with
  | int i => have h5 := gotT (Cond.eq_ints h1 h2) h; rw [h1, h5]
  | _ => first | (obtain ⟨z, hz⟩ := h3; cases hz; done) | exact absurd h3.2 (by simp [Value.isRef])
def own_Q (w : Value) (h0 : Heap) (n0 : Nat) (v : Option Value) (h : Heap) (L : List Loc) : Prop := v = some w ∧ Fr n0 L ∧ h = h0
theorem own_split0 (p0 : Int32) : ((p0 &&& (2147483647 : Int32)) % (6 : Int32)) = (0 : Int32) ∨ ((p0 &&& (2147483647 : Int32)) % (6 : Int32)) = (1 : Int32) ∨ ((p0 &&& (2147483647 : Int32)) % (6 : Int32)) = (2 : Int32) ∨ ((p0 &&& (2147483647 : Int32)) % (6 : Int32)) = (3 : Int32) ∨ ((p0 &&& (2147483647 : Int32)) % (6 : Int32)) = (4 : Int32) ∨ ((p0 &&& (2147483647 : Int32)) % (6 : Int32)) = (5 : Int32) := by
  have h1 := c_mask p0 (2147483647 : Int32) 31 (by decide) (by decide)
  have h0 : 0 ≤ (p0 &&& (2147483647 : Int32)).toInt := by rw [h1]; exact Int.emod_nonneg _ (by decide)
  have h2 := (c_irem (p0 &&& (2147483647 : Int32)) (6 : Int32) 6 rfl).1 h0
  have h3 : ((p0 &&& (2147483647 : Int32)) % (6 : Int32)).toInt = 0 ∨ ((p0 &&& (2147483647 : Int32)) % (6 : Int32)).toInt = 1 ∨ ((p0 &&& (2147483647 : Int32)) % (6 : Int32)).toInt = 2 ∨ ((p0 &&& (2147483647 : Int32)) % (6 : Int32)).toInt = 3 ∨ ((p0 &&& (2147483647 : Int32)) % (6 : Int32)).toInt = 4 ∨ ((p0 &&& (2147483647 : Int32)) % (6 : Int32)).toInt = 5 := by omega
  rcases h3 with h | h | h | h | h | h
  · exact Or.inl (own_lit rfl h)
  · exact Or.inr (Or.inl (own_lit rfl h))
  · exact Or.inr (Or.inr (Or.inl (own_lit rfl h)))
  · exact Or.inr (Or.inr (Or.inr (Or.inl (own_lit rfl h))))
  · exact Or.inr (Or.inr (Or.inr (Or.inr (Or.inl (own_lit rfl h)))))
  · exact Or.inr (Or.inr (Or.inr (Or.inr (Or.inr (own_lit rfl h)))))
def Facts (Z : State) (h : Heap) (a_DELIVER a_REJECT a_QUARANTINE a_SMIME_SIGN a_SMIME_ENCRYPT a_SMIME_SIGN_ENCRYPT : Addr) : Prop :=
  Sta Z h "com/example/mail_policy_gateway/mailpolicygateway/model/Action" "DELIVER" "Lcom/example/mail_policy_gateway/mailpolicygateway/model/Action;" (.ref a_DELIVER) ∧
  Exa Z h a_DELIVER "com/example/mail_policy_gateway/mailpolicygateway/model/Action" ∧
  Sta Z h "com/example/mail_policy_gateway/mailpolicygateway/model/Action" "REJECT" "Lcom/example/mail_policy_gateway/mailpolicygateway/model/Action;" (.ref a_REJECT) ∧
  Exa Z h a_REJECT "com/example/mail_policy_gateway/mailpolicygateway/model/Action" ∧
  Sta Z h "com/example/mail_policy_gateway/mailpolicygateway/model/Action" "QUARANTINE" "Lcom/example/mail_policy_gateway/mailpolicygateway/model/Action;" (.ref a_QUARANTINE) ∧
  Exa Z h a_QUARANTINE "com/example/mail_policy_gateway/mailpolicygateway/model/Action" ∧
  Sta Z h "com/example/mail_policy_gateway/mailpolicygateway/model/Action" "SMIME_SIGN" "Lcom/example/mail_policy_gateway/mailpolicygateway/model/Action;" (.ref a_SMIME_SIGN) ∧
  Exa Z h a_SMIME_SIGN "com/example/mail_policy_gateway/mailpolicygateway/model/Action" ∧
  Sta Z h "com/example/mail_policy_gateway/mailpolicygateway/model/Action" "SMIME_ENCRYPT" "Lcom/example/mail_policy_gateway/mailpolicygateway/model/Action;" (.ref a_SMIME_ENCRYPT) ∧
  Exa Z h a_SMIME_ENCRYPT "com/example/mail_policy_gateway/mailpolicygateway/model/Action" ∧
  Sta Z h "com/example/mail_policy_gateway/mailpolicygateway/model/Action" "SMIME_SIGN_ENCRYPT" "Lcom/example/mail_policy_gateway/mailpolicygateway/model/Action;" (.ref a_SMIME_SIGN_ENCRYPT) ∧
  Exa Z h a_SMIME_SIGN_ENCRYPT "com/example/mail_policy_gateway/mailpolicygateway/model/Action" ∧
  Fld Z h a_SMIME_SIGN "java/lang/Enum" "ordinal" "I" (.int (3 : Int32)) ∧
  Fld Z h a_DELIVER "java/lang/Enum" "ordinal" "I" (.int (0 : Int32)) ∧
  Fld Z h a_SMIME_SIGN "com/example/mail_policy_gateway/mailpolicygateway/model/Action" "signs" "Z" (.int (1 : Int32)) ∧
  Fld Z h a_QUARANTINE "java/lang/Enum" "ordinal" "I" (.int (2 : Int32)) ∧
  Fld Z h a_QUARANTINE "com/example/mail_policy_gateway/mailpolicygateway/model/Action" "signs" "Z" (.int (0 : Int32)) ∧
  Fld Z h a_QUARANTINE "com/example/mail_policy_gateway/mailpolicygateway/model/Action" "encrypts" "Z" (.int (0 : Int32)) ∧
  Fld Z h a_REJECT "java/lang/Enum" "ordinal" "I" (.int (1 : Int32)) ∧
  Fld Z h a_REJECT "com/example/mail_policy_gateway/mailpolicygateway/model/Action" "signs" "Z" (.int (0 : Int32)) ∧
  Fld Z h a_REJECT "com/example/mail_policy_gateway/mailpolicygateway/model/Action" "encrypts" "Z" (.int (0 : Int32)) ∧
  Fld Z h a_SMIME_SIGN_ENCRYPT "java/lang/Enum" "ordinal" "I" (.int (5 : Int32)) ∧
  Fld Z h a_SMIME_SIGN_ENCRYPT "com/example/mail_policy_gateway/mailpolicygateway/model/Action" "signs" "Z" (.int (1 : Int32)) ∧
  Fld Z h a_SMIME_ENCRYPT "java/lang/Enum" "ordinal" "I" (.int (4 : Int32)) ∧
  Fld Z h a_SMIME_ENCRYPT "com/example/mail_policy_gateway/mailpolicygateway/model/Action" "signs" "Z" (.int (0 : Int32)) ∧
  Fld Z h a_SMIME_ENCRYPT "com/example/mail_policy_gateway/mailpolicygateway/model/Action" "encrypts" "Z" (.int (1 : Int32)) ∧
  Fld Z h a_DELIVER "com/example/mail_policy_gateway/mailpolicygateway/model/Action" "signs" "Z" (.int (0 : Int32)) ∧
  Fld Z h a_DELIVER "com/example/mail_policy_gateway/mailpolicygateway/model/Action" "encrypts" "Z" (.int (0 : Int32)) ∧
  Fld Z h a_SMIME_SIGN "com/example/mail_policy_gateway/mailpolicygateway/model/Action" "encrypts" "Z" (.int (0 : Int32)) ∧
  Fld Z h a_SMIME_SIGN_ENCRYPT "com/example/mail_policy_gateway/mailpolicygateway/model/Action" "encrypts" "Z" (.int (1 : Int32))
theorem fx_S_DELIVER {Z : State} {h : Heap} {a_DELIVER a_REJECT a_QUARANTINE a_SMIME_SIGN a_SMIME_ENCRYPT a_SMIME_SIGN_ENCRYPT : Addr} (F : Facts Z h a_DELIVER a_REJECT a_QUARANTINE a_SMIME_SIGN a_SMIME_ENCRYPT a_SMIME_SIGN_ENCRYPT) : Sta Z h "com/example/mail_policy_gateway/mailpolicygateway/model/Action" "DELIVER" "Lcom/example/mail_policy_gateway/mailpolicygateway/model/Action;" (.ref a_DELIVER) := F.1
theorem fx_E_DELIVER {Z : State} {h : Heap} {a_DELIVER a_REJECT a_QUARANTINE a_SMIME_SIGN a_SMIME_ENCRYPT a_SMIME_SIGN_ENCRYPT : Addr} (F : Facts Z h a_DELIVER a_REJECT a_QUARANTINE a_SMIME_SIGN a_SMIME_ENCRYPT a_SMIME_SIGN_ENCRYPT) : Exa Z h a_DELIVER "com/example/mail_policy_gateway/mailpolicygateway/model/Action" := F.2.1
theorem fx_S_REJECT {Z : State} {h : Heap} {a_DELIVER a_REJECT a_QUARANTINE a_SMIME_SIGN a_SMIME_ENCRYPT a_SMIME_SIGN_ENCRYPT : Addr} (F : Facts Z h a_DELIVER a_REJECT a_QUARANTINE a_SMIME_SIGN a_SMIME_ENCRYPT a_SMIME_SIGN_ENCRYPT) : Sta Z h "com/example/mail_policy_gateway/mailpolicygateway/model/Action" "REJECT" "Lcom/example/mail_policy_gateway/mailpolicygateway/model/Action;" (.ref a_REJECT) := F.2.2.1
theorem fx_E_REJECT {Z : State} {h : Heap} {a_DELIVER a_REJECT a_QUARANTINE a_SMIME_SIGN a_SMIME_ENCRYPT a_SMIME_SIGN_ENCRYPT : Addr} (F : Facts Z h a_DELIVER a_REJECT a_QUARANTINE a_SMIME_SIGN a_SMIME_ENCRYPT a_SMIME_SIGN_ENCRYPT) : Exa Z h a_REJECT "com/example/mail_policy_gateway/mailpolicygateway/model/Action" := F.2.2.2.1
theorem fx_S_QUARANTINE {Z : State} {h : Heap} {a_DELIVER a_REJECT a_QUARANTINE a_SMIME_SIGN a_SMIME_ENCRYPT a_SMIME_SIGN_ENCRYPT : Addr} (F : Facts Z h a_DELIVER a_REJECT a_QUARANTINE a_SMIME_SIGN a_SMIME_ENCRYPT a_SMIME_SIGN_ENCRYPT) : Sta Z h "com/example/mail_policy_gateway/mailpolicygateway/model/Action" "QUARANTINE" "Lcom/example/mail_policy_gateway/mailpolicygateway/model/Action;" (.ref a_QUARANTINE) := F.2.2.2.2.1
theorem fx_E_QUARANTINE {Z : State} {h : Heap} {a_DELIVER a_REJECT a_QUARANTINE a_SMIME_SIGN a_SMIME_ENCRYPT a_SMIME_SIGN_ENCRYPT : Addr} (F : Facts Z h a_DELIVER a_REJECT a_QUARANTINE a_SMIME_SIGN a_SMIME_ENCRYPT a_SMIME_SIGN_ENCRYPT) : Exa Z h a_QUARANTINE "com/example/mail_policy_gateway/mailpolicygateway/model/Action" := F.2.2.2.2.2.1
theorem fx_S_SMIME_SIGN {Z : State} {h : Heap} {a_DELIVER a_REJECT a_QUARANTINE a_SMIME_SIGN a_SMIME_ENCRYPT a_SMIME_SIGN_ENCRYPT : Addr} (F : Facts Z h a_DELIVER a_REJECT a_QUARANTINE a_SMIME_SIGN a_SMIME_ENCRYPT a_SMIME_SIGN_ENCRYPT) : Sta Z h "com/example/mail_policy_gateway/mailpolicygateway/model/Action" "SMIME_SIGN" "Lcom/example/mail_policy_gateway/mailpolicygateway/model/Action;" (.ref a_SMIME_SIGN) := F.2.2.2.2.2.2.1
theorem fx_E_SMIME_SIGN {Z : State} {h : Heap} {a_DELIVER a_REJECT a_QUARANTINE a_SMIME_SIGN a_SMIME_ENCRYPT a_SMIME_SIGN_ENCRYPT : Addr} (F : Facts Z h a_DELIVER a_REJECT a_QUARANTINE a_SMIME_SIGN a_SMIME_ENCRYPT a_SMIME_SIGN_ENCRYPT) : Exa Z h a_SMIME_SIGN "com/example/mail_policy_gateway/mailpolicygateway/model/Action" := F.2.2.2.2.2.2.2.1
theorem fx_S_SMIME_ENCRYPT {Z : State} {h : Heap} {a_DELIVER a_REJECT a_QUARANTINE a_SMIME_SIGN a_SMIME_ENCRYPT a_SMIME_SIGN_ENCRYPT : Addr} (F : Facts Z h a_DELIVER a_REJECT a_QUARANTINE a_SMIME_SIGN a_SMIME_ENCRYPT a_SMIME_SIGN_ENCRYPT) : Sta Z h "com/example/mail_policy_gateway/mailpolicygateway/model/Action" "SMIME_ENCRYPT" "Lcom/example/mail_policy_gateway/mailpolicygateway/model/Action;" (.ref a_SMIME_ENCRYPT) := F.2.2.2.2.2.2.2.2.1
theorem fx_E_SMIME_ENCRYPT {Z : State} {h : Heap} {a_DELIVER a_REJECT a_QUARANTINE a_SMIME_SIGN a_SMIME_ENCRYPT a_SMIME_SIGN_ENCRYPT : Addr} (F : Facts Z h a_DELIVER a_REJECT a_QUARANTINE a_SMIME_SIGN a_SMIME_ENCRYPT a_SMIME_SIGN_ENCRYPT) : Exa Z h a_SMIME_ENCRYPT "com/example/mail_policy_gateway/mailpolicygateway/model/Action" := F.2.2.2.2.2.2.2.2.2.1
theorem fx_S_SMIME_SIGN_ENCRYPT {Z : State} {h : Heap} {a_DELIVER a_REJECT a_QUARANTINE a_SMIME_SIGN a_SMIME_ENCRYPT a_SMIME_SIGN_ENCRYPT : Addr} (F : Facts Z h a_DELIVER a_REJECT a_QUARANTINE a_SMIME_SIGN a_SMIME_ENCRYPT a_SMIME_SIGN_ENCRYPT) : Sta Z h "com/example/mail_policy_gateway/mailpolicygateway/model/Action" "SMIME_SIGN_ENCRYPT" "Lcom/example/mail_policy_gateway/mailpolicygateway/model/Action;" (.ref a_SMIME_SIGN_ENCRYPT) := F.2.2.2.2.2.2.2.2.2.2.1
theorem fx_E_SMIME_SIGN_ENCRYPT {Z : State} {h : Heap} {a_DELIVER a_REJECT a_QUARANTINE a_SMIME_SIGN a_SMIME_ENCRYPT a_SMIME_SIGN_ENCRYPT : Addr} (F : Facts Z h a_DELIVER a_REJECT a_QUARANTINE a_SMIME_SIGN a_SMIME_ENCRYPT a_SMIME_SIGN_ENCRYPT) : Exa Z h a_SMIME_SIGN_ENCRYPT "com/example/mail_policy_gateway/mailpolicygateway/model/Action" := F.2.2.2.2.2.2.2.2.2.2.2.1
theorem fx_F_SMIME_SIGN_ordinal {Z : State} {h : Heap} {a_DELIVER a_REJECT a_QUARANTINE a_SMIME_SIGN a_SMIME_ENCRYPT a_SMIME_SIGN_ENCRYPT : Addr} (F : Facts Z h a_DELIVER a_REJECT a_QUARANTINE a_SMIME_SIGN a_SMIME_ENCRYPT a_SMIME_SIGN_ENCRYPT) : Fld Z h a_SMIME_SIGN "java/lang/Enum" "ordinal" "I" (.int (3 : Int32)) := F.2.2.2.2.2.2.2.2.2.2.2.2.1
theorem fx_F_DELIVER_ordinal {Z : State} {h : Heap} {a_DELIVER a_REJECT a_QUARANTINE a_SMIME_SIGN a_SMIME_ENCRYPT a_SMIME_SIGN_ENCRYPT : Addr} (F : Facts Z h a_DELIVER a_REJECT a_QUARANTINE a_SMIME_SIGN a_SMIME_ENCRYPT a_SMIME_SIGN_ENCRYPT) : Fld Z h a_DELIVER "java/lang/Enum" "ordinal" "I" (.int (0 : Int32)) := F.2.2.2.2.2.2.2.2.2.2.2.2.2.1
theorem fx_F_SMIME_SIGN_signs {Z : State} {h : Heap} {a_DELIVER a_REJECT a_QUARANTINE a_SMIME_SIGN a_SMIME_ENCRYPT a_SMIME_SIGN_ENCRYPT : Addr} (F : Facts Z h a_DELIVER a_REJECT a_QUARANTINE a_SMIME_SIGN a_SMIME_ENCRYPT a_SMIME_SIGN_ENCRYPT) : Fld Z h a_SMIME_SIGN "com/example/mail_policy_gateway/mailpolicygateway/model/Action" "signs" "Z" (.int (1 : Int32)) := F.2.2.2.2.2.2.2.2.2.2.2.2.2.2.1
theorem fx_F_QUARANTINE_ordinal {Z : State} {h : Heap} {a_DELIVER a_REJECT a_QUARANTINE a_SMIME_SIGN a_SMIME_ENCRYPT a_SMIME_SIGN_ENCRYPT : Addr} (F : Facts Z h a_DELIVER a_REJECT a_QUARANTINE a_SMIME_SIGN a_SMIME_ENCRYPT a_SMIME_SIGN_ENCRYPT) : Fld Z h a_QUARANTINE "java/lang/Enum" "ordinal" "I" (.int (2 : Int32)) := F.2.2.2.2.2.2.2.2.2.2.2.2.2.2.2.1
theorem fx_F_QUARANTINE_signs {Z : State} {h : Heap} {a_DELIVER a_REJECT a_QUARANTINE a_SMIME_SIGN a_SMIME_ENCRYPT a_SMIME_SIGN_ENCRYPT : Addr} (F : Facts Z h a_DELIVER a_REJECT a_QUARANTINE a_SMIME_SIGN a_SMIME_ENCRYPT a_SMIME_SIGN_ENCRYPT) : Fld Z h a_QUARANTINE "com/example/mail_policy_gateway/mailpolicygateway/model/Action" "signs" "Z" (.int (0 : Int32)) := F.2.2.2.2.2.2.2.2.2.2.2.2.2.2.2.2.1
theorem fx_F_QUARANTINE_encrypts {Z : State} {h : Heap} {a_DELIVER a_REJECT a_QUARANTINE a_SMIME_SIGN a_SMIME_ENCRYPT a_SMIME_SIGN_ENCRYPT : Addr} (F : Facts Z h a_DELIVER a_REJECT a_QUARANTINE a_SMIME_SIGN a_SMIME_ENCRYPT a_SMIME_SIGN_ENCRYPT) : Fld Z h a_QUARANTINE "com/example/mail_policy_gateway/mailpolicygateway/model/Action" "encrypts" "Z" (.int (0 : Int32)) := F.2.2.2.2.2.2.2.2.2.2.2.2.2.2.2.2.2.1
theorem fx_F_REJECT_ordinal {Z : State} {h : Heap} {a_DELIVER a_REJECT a_QUARANTINE a_SMIME_SIGN a_SMIME_ENCRYPT a_SMIME_SIGN_ENCRYPT : Addr} (F : Facts Z h a_DELIVER a_REJECT a_QUARANTINE a_SMIME_SIGN a_SMIME_ENCRYPT a_SMIME_SIGN_ENCRYPT) : Fld Z h a_REJECT "java/lang/Enum" "ordinal" "I" (.int (1 : Int32)) := F.2.2.2.2.2.2.2.2.2.2.2.2.2.2.2.2.2.2.1
theorem fx_F_REJECT_signs {Z : State} {h : Heap} {a_DELIVER a_REJECT a_QUARANTINE a_SMIME_SIGN a_SMIME_ENCRYPT a_SMIME_SIGN_ENCRYPT : Addr} (F : Facts Z h a_DELIVER a_REJECT a_QUARANTINE a_SMIME_SIGN a_SMIME_ENCRYPT a_SMIME_SIGN_ENCRYPT) : Fld Z h a_REJECT "com/example/mail_policy_gateway/mailpolicygateway/model/Action" "signs" "Z" (.int (0 : Int32)) := F.2.2.2.2.2.2.2.2.2.2.2.2.2.2.2.2.2.2.2.1
theorem fx_F_REJECT_encrypts {Z : State} {h : Heap} {a_DELIVER a_REJECT a_QUARANTINE a_SMIME_SIGN a_SMIME_ENCRYPT a_SMIME_SIGN_ENCRYPT : Addr} (F : Facts Z h a_DELIVER a_REJECT a_QUARANTINE a_SMIME_SIGN a_SMIME_ENCRYPT a_SMIME_SIGN_ENCRYPT) : Fld Z h a_REJECT "com/example/mail_policy_gateway/mailpolicygateway/model/Action" "encrypts" "Z" (.int (0 : Int32)) := F.2.2.2.2.2.2.2.2.2.2.2.2.2.2.2.2.2.2.2.2.1
theorem fx_F_SMIME_SIGN_ENCRYPT_ordinal {Z : State} {h : Heap} {a_DELIVER a_REJECT a_QUARANTINE a_SMIME_SIGN a_SMIME_ENCRYPT a_SMIME_SIGN_ENCRYPT : Addr} (F : Facts Z h a_DELIVER a_REJECT a_QUARANTINE a_SMIME_SIGN a_SMIME_ENCRYPT a_SMIME_SIGN_ENCRYPT) : Fld Z h a_SMIME_SIGN_ENCRYPT "java/lang/Enum" "ordinal" "I" (.int (5 : Int32)) := F.2.2.2.2.2.2.2.2.2.2.2.2.2.2.2.2.2.2.2.2.2.1
theorem fx_F_SMIME_SIGN_ENCRYPT_signs {Z : State} {h : Heap} {a_DELIVER a_REJECT a_QUARANTINE a_SMIME_SIGN a_SMIME_ENCRYPT a_SMIME_SIGN_ENCRYPT : Addr} (F : Facts Z h a_DELIVER a_REJECT a_QUARANTINE a_SMIME_SIGN a_SMIME_ENCRYPT a_SMIME_SIGN_ENCRYPT) : Fld Z h a_SMIME_SIGN_ENCRYPT "com/example/mail_policy_gateway/mailpolicygateway/model/Action" "signs" "Z" (.int (1 : Int32)) := F.2.2.2.2.2.2.2.2.2.2.2.2.2.2.2.2.2.2.2.2.2.2.1
theorem fx_F_SMIME_ENCRYPT_ordinal {Z : State} {h : Heap} {a_DELIVER a_REJECT a_QUARANTINE a_SMIME_SIGN a_SMIME_ENCRYPT a_SMIME_SIGN_ENCRYPT : Addr} (F : Facts Z h a_DELIVER a_REJECT a_QUARANTINE a_SMIME_SIGN a_SMIME_ENCRYPT a_SMIME_SIGN_ENCRYPT) : Fld Z h a_SMIME_ENCRYPT "java/lang/Enum" "ordinal" "I" (.int (4 : Int32)) := F.2.2.2.2.2.2.2.2.2.2.2.2.2.2.2.2.2.2.2.2.2.2.2.1
theorem fx_F_SMIME_ENCRYPT_signs {Z : State} {h : Heap} {a_DELIVER a_REJECT a_QUARANTINE a_SMIME_SIGN a_SMIME_ENCRYPT a_SMIME_SIGN_ENCRYPT : Addr} (F : Facts Z h a_DELIVER a_REJECT a_QUARANTINE a_SMIME_SIGN a_SMIME_ENCRYPT a_SMIME_SIGN_ENCRYPT) : Fld Z h a_SMIME_ENCRYPT "com/example/mail_policy_gateway/mailpolicygateway/model/Action" "signs" "Z" (.int (0 : Int32)) := F.2.2.2.2.2.2.2.2.2.2.2.2.2.2.2.2.2.2.2.2.2.2.2.2.1
theorem fx_F_SMIME_ENCRYPT_encrypts {Z : State} {h : Heap} {a_DELIVER a_REJECT a_QUARANTINE a_SMIME_SIGN a_SMIME_ENCRYPT a_SMIME_SIGN_ENCRYPT : Addr} (F : Facts Z h a_DELIVER a_REJECT a_QUARANTINE a_SMIME_SIGN a_SMIME_ENCRYPT a_SMIME_SIGN_ENCRYPT) : Fld Z h a_SMIME_ENCRYPT "com/example/mail_policy_gateway/mailpolicygateway/model/Action" "encrypts" "Z" (.int (1 : Int32)) := F.2.2.2.2.2.2.2.2.2.2.2.2.2.2.2.2.2.2.2.2.2.2.2.2.2.1
theorem fx_F_DELIVER_signs {Z : State} {h : Heap} {a_DELIVER a_REJECT a_QUARANTINE a_SMIME_SIGN a_SMIME_ENCRYPT a_SMIME_SIGN_ENCRYPT : Addr} (F : Facts Z h a_DELIVER a_REJECT a_QUARANTINE a_SMIME_SIGN a_SMIME_ENCRYPT a_SMIME_SIGN_ENCRYPT) : Fld Z h a_DELIVER "com/example/mail_policy_gateway/mailpolicygateway/model/Action" "signs" "Z" (.int (0 : Int32)) := F.2.2.2.2.2.2.2.2.2.2.2.2.2.2.2.2.2.2.2.2.2.2.2.2.2.2.1
theorem fx_F_DELIVER_encrypts {Z : State} {h : Heap} {a_DELIVER a_REJECT a_QUARANTINE a_SMIME_SIGN a_SMIME_ENCRYPT a_SMIME_SIGN_ENCRYPT : Addr} (F : Facts Z h a_DELIVER a_REJECT a_QUARANTINE a_SMIME_SIGN a_SMIME_ENCRYPT a_SMIME_SIGN_ENCRYPT) : Fld Z h a_DELIVER "com/example/mail_policy_gateway/mailpolicygateway/model/Action" "encrypts" "Z" (.int (0 : Int32)) := F.2.2.2.2.2.2.2.2.2.2.2.2.2.2.2.2.2.2.2.2.2.2.2.2.2.2.2.1
theorem fx_F_SMIME_SIGN_encrypts {Z : State} {h : Heap} {a_DELIVER a_REJECT a_QUARANTINE a_SMIME_SIGN a_SMIME_ENCRYPT a_SMIME_SIGN_ENCRYPT : Addr} (F : Facts Z h a_DELIVER a_REJECT a_QUARANTINE a_SMIME_SIGN a_SMIME_ENCRYPT a_SMIME_SIGN_ENCRYPT) : Fld Z h a_SMIME_SIGN "com/example/mail_policy_gateway/mailpolicygateway/model/Action" "encrypts" "Z" (.int (0 : Int32)) := F.2.2.2.2.2.2.2.2.2.2.2.2.2.2.2.2.2.2.2.2.2.2.2.2.2.2.2.2.1
theorem fx_F_SMIME_SIGN_ENCRYPT_encrypts {Z : State} {h : Heap} {a_DELIVER a_REJECT a_QUARANTINE a_SMIME_SIGN a_SMIME_ENCRYPT a_SMIME_SIGN_ENCRYPT : Addr} (F : Facts Z h a_DELIVER a_REJECT a_QUARANTINE a_SMIME_SIGN a_SMIME_ENCRYPT a_SMIME_SIGN_ENCRYPT) : Fld Z h a_SMIME_SIGN_ENCRYPT "com/example/mail_policy_gateway/mailpolicygateway/model/Action" "encrypts" "Z" (.int (1 : Int32)) := F.2.2.2.2.2.2.2.2.2.2.2.2.2.2.2.2.2.2.2.2.2.2.2.2.2.2.2.2.2
theorem Facts.ext {Z : State} {h h' : Heap} {a_DELIVER a_REJECT a_QUARANTINE a_SMIME_SIGN a_SMIME_ENCRYPT a_SMIME_SIGN_ENCRYPT : Addr} (F : Facts Z h a_DELIVER a_REJECT a_QUARANTINE a_SMIME_SIGN a_SMIME_ENCRYPT a_SMIME_SIGN_ENCRYPT) (E : Ext h h') : Facts Z h' a_DELIVER a_REJECT a_QUARANTINE a_SMIME_SIGN a_SMIME_ENCRYPT a_SMIME_SIGN_ENCRYPT := ⟨Sta.ext E (fx_S_DELIVER F), Exa.ext E (fx_E_DELIVER F), Sta.ext E (fx_S_REJECT F), Exa.ext E (fx_E_REJECT F), Sta.ext E (fx_S_QUARANTINE F), Exa.ext E (fx_E_QUARANTINE F), Sta.ext E (fx_S_SMIME_SIGN F), Exa.ext E (fx_E_SMIME_SIGN F), Sta.ext E (fx_S_SMIME_ENCRYPT F), Exa.ext E (fx_E_SMIME_ENCRYPT F), Sta.ext E (fx_S_SMIME_SIGN_ENCRYPT F), Exa.ext E (fx_E_SMIME_SIGN_ENCRYPT F), Fld.ext E (fx_F_SMIME_SIGN_ordinal F), Fld.ext E (fx_F_DELIVER_ordinal F), Fld.ext E (fx_F_SMIME_SIGN_signs F), Fld.ext E (fx_F_QUARANTINE_ordinal F), Fld.ext E (fx_F_QUARANTINE_signs F), Fld.ext E (fx_F_QUARANTINE_encrypts F), Fld.ext E (fx_F_REJECT_ordinal F), Fld.ext E (fx_F_REJECT_signs F), Fld.ext E (fx_F_REJECT_encrypts F), Fld.ext E (fx_F_SMIME_SIGN_ENCRYPT_ordinal F), Fld.ext E (fx_F_SMIME_SIGN_ENCRYPT_signs F), Fld.ext E (fx_F_SMIME_ENCRYPT_ordinal F), Fld.ext E (fx_F_SMIME_ENCRYPT_signs F), Fld.ext E (fx_F_SMIME_ENCRYPT_encrypts F), Fld.ext E (fx_F_DELIVER_signs F), Fld.ext E (fx_F_DELIVER_encrypts F), Fld.ext E (fx_F_SMIME_SIGN_encrypts F), Fld.ext E (fx_F_SMIME_SIGN_ENCRYPT_encrypts F)⟩
theorem Facts.wr {Z : State} {h h' : Heap} {a_DELIVER a_REJECT a_QUARANTINE a_SMIME_SIGN a_SMIME_ENCRYPT a_SMIME_SIGN_ENCRYPT : Addr} {h0 : Heap} {b : Addr} {sl : Nat} {v : Value} (F0 : Facts Z h0 a_DELIVER a_REJECT a_QUARANTINE a_SMIME_SIGN a_SMIME_ENCRYPT a_SMIME_SIGN_ENCRYPT) (F : Facts Z h a_DELIVER a_REJECT a_QUARANTINE a_SMIME_SIGN a_SMIME_ENCRYPT a_SMIME_SIGN_ENCRYPT) (W : Wr h h' b sl v) (q : h0.size ≤ b) : Facts Z h' a_DELIVER a_REJECT a_QUARANTINE a_SMIME_SIGN a_SMIME_ENCRYPT a_SMIME_SIGN_ENCRYPT := ⟨Sta.wr W (fx_S_DELIVER F), Exa.wr W (fx_E_DELIVER F), Sta.wr W (fx_S_REJECT F), Exa.wr W (fx_E_REJECT F), Sta.wr W (fx_S_QUARANTINE F), Exa.wr W (fx_E_QUARANTINE F), Sta.wr W (fx_S_SMIME_SIGN F), Exa.wr W (fx_E_SMIME_SIGN F), Sta.wr W (fx_S_SMIME_ENCRYPT F), Exa.wr W (fx_E_SMIME_ENCRYPT F), Sta.wr W (fx_S_SMIME_SIGN_ENCRYPT F), Exa.wr W (fx_E_SMIME_SIGN_ENCRYPT F), Fld.other W (fx_F_SMIME_SIGN_ordinal F) (Or.inl (Nat.ne_of_lt (Nat.lt_of_lt_of_le (fx_E_SMIME_SIGN F0).lt q))), Fld.other W (fx_F_DELIVER_ordinal F) (Or.inl (Nat.ne_of_lt (Nat.lt_of_lt_of_le (fx_E_DELIVER F0).lt q))), Fld.other W (fx_F_SMIME_SIGN_signs F) (Or.inl (Nat.ne_of_lt (Nat.lt_of_lt_of_le (fx_E_SMIME_SIGN F0).lt q))), Fld.other W (fx_F_QUARANTINE_ordinal F) (Or.inl (Nat.ne_of_lt (Nat.lt_of_lt_of_le (fx_E_QUARANTINE F0).lt q))), Fld.other W (fx_F_QUARANTINE_signs F) (Or.inl (Nat.ne_of_lt (Nat.lt_of_lt_of_le (fx_E_QUARANTINE F0).lt q))), Fld.other W (fx_F_QUARANTINE_encrypts F) (Or.inl (Nat.ne_of_lt (Nat.lt_of_lt_of_le (fx_E_QUARANTINE F0).lt q))), Fld.other W (fx_F_REJECT_ordinal F) (Or.inl (Nat.ne_of_lt (Nat.lt_of_lt_of_le (fx_E_REJECT F0).lt q))), Fld.other W (fx_F_REJECT_signs F) (Or.inl (Nat.ne_of_lt (Nat.lt_of_lt_of_le (fx_E_REJECT F0).lt q))), Fld.other W (fx_F_REJECT_encrypts F) (Or.inl (Nat.ne_of_lt (Nat.lt_of_lt_of_le (fx_E_REJECT F0).lt q))), Fld.other W (fx_F_SMIME_SIGN_ENCRYPT_ordinal F) (Or.inl (Nat.ne_of_lt (Nat.lt_of_lt_of_le (fx_E_SMIME_SIGN_ENCRYPT F0).lt q))), Fld.other W (fx_F_SMIME_SIGN_ENCRYPT_signs F) (Or.inl (Nat.ne_of_lt (Nat.lt_of_lt_of_le (fx_E_SMIME_SIGN_ENCRYPT F0).lt q))), Fld.other W (fx_F_SMIME_ENCRYPT_ordinal F) (Or.inl (Nat.ne_of_lt (Nat.lt_of_lt_of_le (fx_E_SMIME_ENCRYPT F0).lt q))), Fld.other W (fx_F_SMIME_ENCRYPT_signs F) (Or.inl (Nat.ne_of_lt (Nat.lt_of_lt_of_le (fx_E_SMIME_ENCRYPT F0).lt q))), Fld.other W (fx_F_SMIME_ENCRYPT_encrypts F) (Or.inl (Nat.ne_of_lt (Nat.lt_of_lt_of_le (fx_E_SMIME_ENCRYPT F0).lt q))), Fld.other W (fx_F_DELIVER_signs F) (Or.inl (Nat.ne_of_lt (Nat.lt_of_lt_of_le (fx_E_DELIVER F0).lt q))), Fld.other W (fx_F_DELIVER_encrypts F) (Or.inl (Nat.ne_of_lt (Nat.lt_of_lt_of_le (fx_E_DELIVER F0).lt q))), Fld.other W (fx_F_SMIME_SIGN_encrypts F) (Or.inl (Nat.ne_of_lt (Nat.lt_of_lt_of_le (fx_E_SMIME_SIGN F0).lt q))), Fld.other W (fx_F_SMIME_SIGN_ENCRYPT_encrypts F) (Or.inl (Nat.ne_of_lt (Nat.lt_of_lt_of_le (fx_E_SMIME_SIGN_ENCRYPT F0).lt q)))⟩
theorem pn_0 : plainName "com/example/mail_policy_gateway/mailpolicygateway/model/ActionDeliversPinLaw" = true := by first | (simp [plainName, overriddenIn]; done) | decide +kernel
theorem ef_0 (m : MethodId) (x0 : Int32) : entryFrame m #[(.int x0)] maxLocals = mkF m 0 #[.val (.int x0), .unset, .unset, .unset] [] := by first | (simp [entryFrame, mkF, argsToLocals, Value.category, maxLocals]; done) | rfl
theorem d1_0 : decode prog_34_method_6_code 0 = .ok (.aload_n 0, 1) := by decide +kernel
theorem d1_1 : decode prog_34_method_6_code 1 = .ok (.getstatic 3, 3) := by decide +kernel
theorem d1_4 : decode prog_34_method_6_code 4 = .ok (.if_acmp .eq 17, 3) := by decide +kernel
theorem d1_7 : decode prog_34_method_6_code 7 = .ok (.aload_n 0, 1) := by decide +kernel
theorem d1_8 : decode prog_34_method_6_code 8 = .ok (.getfield 45, 3) := by decide +kernel
theorem d1_11 : decode prog_34_method_6_code 11 = .ok (.ifCond .ne 10, 3) := by decide +kernel
theorem d1_14 : decode prog_34_method_6_code 14 = .ok (.aload_n 0, 1) := by decide +kernel
theorem d1_15 : decode prog_34_method_6_code 15 = .ok (.getfield 49, 3) := by decide +kernel
theorem d1_18 : decode prog_34_method_6_code 18 = .ok (.ifCond .eq 7, 3) := by decide +kernel
theorem d1_21 : decode prog_34_method_6_code 21 = .ok (.iconst 1, 1) := by decide +kernel
theorem d1_22 : decode prog_34_method_6_code 22 = .ok (.goto 4, 3) := by decide +kernel
theorem d1_25 : decode prog_34_method_6_code 25 = .ok (.iconst 0, 1) := by decide +kernel
theorem d1_26 : decode prog_34_method_6_code 26 = .ok (.ireturn, 1) := by decide +kernel
theorem pn_1 : plainName "com/example/mail_policy_gateway/mailpolicygateway/model/Action" = true := by first | (simp [plainName, overriddenIn]; done) | decide +kernel
theorem ef_1 (m : MethodId) (x0 : Addr) : entryFrame m #[(.ref x0)] 1 = mkF m 0 #[.val (.ref x0)] [] := by first | (simp [entryFrame, mkF, argsToLocals, Value.category]; done) | rfl
theorem pd_0 : parseMethodDescriptor "()Z" = some ⟨[], some .boolean⟩ := by decide +kernel
set_option maxRecDepth 65536 in
set_option maxHeartbeats 40000000 in
theorem rm1_0 (l : Launch) (Z : State) (a0 : Array Value) (hw : ∀ d ∈ tables_1, d.before a0 Z = true) (ws : List Jvm.Cond) (p0 : Int32) (a_DELIVER a_REJECT a_QUARANTINE a_SMIME_SIGN a_SMIME_ENCRYPT a_SMIME_SIGN_ENCRYPT : Addr) (h0 : Heap) (n0 : Nat) (Z0 : n0 ≤ h0.size) (FF : Facts Z h0 a_DELIVER a_REJECT a_QUARANTINE a_SMIME_SIGN a_SMIME_ENCRYPT a_SMIME_SIGN_ENCRYPT) :
    MetFree l (⟨"com/example/mail_policy_gateway/mailpolicygateway/model/Action", "delivers", "()Z"⟩ : MethodName) (head1 (Jvm.Cond.code (⟨"com/example/mail_policy_gateway/mailpolicygateway/model/Action", "delivers", "()Z"⟩ : MethodName) prog_34_method_6_code 1 (some .boolean) :: ws) ({ frames := 0, cells := 0, slots := 0, locals := 0 } : Room)) (fun a U => a = #[(.ref a_DELIVER)] ∧ Z.Warmed39 U.vm ∧ U.heap = h0) (fun _ _ _ _ _ => True) (fun _ U o U' => ∃ v L, o = .returned v ∧ own_Q (.int (1 : Int32)) h0 n0 v U'.heap L ∧ FrameEnd U o U' L ({ frames := 0, cells := 0, slots := 0, locals := 0 } : Room).cells ({ frames := 0, cells := 0, slots := 0, locals := 0 } : Room).slots) := by
  refine MetFree.of_bodySF (plainFor_of_name pn_1) hisR ?_
  intro p e s m args below meth c s₁ Bd hml0 hP hK
  obtain ⟨rfl, hZ, hh⟩ := hP
  have hx := Bd.exec
  have hby := Bd.bytes
  have hml : c.maxLocals = 1 := hml0
  have hown : s.vm.findClass "com/example/mail_policy_gateway/mailpolicygateway/model/Action" = some m.cls := findClass_of_methodNamed Bd.named
  have X0 : Stand p l e ({ frames := 0, cells := 0, slots := 0, locals := 0 } : Room) s m #[(.ref a_DELIVER)] below meth c s₁ [] 0 0 := Stand.of_body Bd
  have e0 : s₁.heap = h0 := by rw [← hh, Bd.state]; rfl
  have N0 := Fr.nil n0
  have pre0 : ∀ t, Steps p.tables e below (s₁.setTop (mkF m 0 #[.val (.ref a_DELIVER)] [])) t → Steps p.tables e below (s₁.setTop (entryFrame m #[(.ref a_DELIVER)] 1)) t := fun t k => castTop (ef_1 m a_DELIVER) k
  obtain ⟨T1, X1, e1, st1⟩ := getS2 X0 hx hZ hown (host := "") (Or.inl (hw _ (List.mem_of_getElem? (i := 22) rfl))) Via.refl e0 (fx_S_DELIVER FF) (g := (mkF m 1 #[.val (.ref a_DELIVER)] [(.ref a_DELIVER)])) rfl (hb hby d1_1)
  obtain ⟨fs, hr, hrun, hended, hW, hsame⟩ := X1.leave (v := some (.int (1 : Int32))) (fun h => by rw [Bd.returns] at h; cases h)
  refine ⟨_, _, pre0 _ ?_, hrun, hended, _, _, rfl, ?_, ⟨_, rfl⟩, hW, hsame.mono (by decide) (by decide)⟩
  · show Steps p.tables e below (s₁.setTop (mkF m 0 #[.val (.ref a_DELIVER)] [])) _
    refine XS.aloadN X0.here hx rfl (hb hby d1_0) rfl rfl ?_
    show Steps p.tables e below (s₁.setTop (mkF m 1 #[.val (.ref a_DELIVER)] [(.ref a_DELIVER)])) _
    refine st1 _ ?_
    show Steps p.tables e below (T1.setTop (mkF m 4 #[.val (.ref a_DELIVER)] [(.ref a_DELIVER), (.ref a_DELIVER)])) _
    refine Jvm.RoadKit.acmp (g := (mkF m 4 #[.val (.ref a_DELIVER)] [(.ref a_DELIVER), (.ref a_DELIVER)])) X1 hx rfl rfl rfl (pc0 := 4) (pc' := 21) (same := true) rfl (hb hby d1_4) rfl (decide_eq_true rfl) (by decide) (by decide) ?_
    show Steps p.tables e below (T1.setTop (mkF m 21 #[.val (.ref a_DELIVER)] [])) _
    refine XS.iconst X1.here hx rfl (hb hby d1_21) ?_
    show Steps p.tables e below (T1.setTop (mkF m 22 #[.val (.ref a_DELIVER)] [(.int (1 : Int32))])) _
    refine XS.goto X1.here hx rfl (pc0 := 22) (pc' := 26) rfl (hb hby d1_22) (by decide) (by decide) ?_
    show Steps p.tables e below (T1.setTop (mkF m 26 #[.val (.ref a_DELIVER)] [(.int (1 : Int32))])) _
    exact retN X1 hx (t := .boolean) Bd.returns (by simp) (hb hby d1_26) hr
  · show own_Q _ _ _ _ T1.heap _
    exact ⟨rfl, N0, e1⟩
set_option maxRecDepth 65536 in
set_option maxHeartbeats 40000000 in
theorem rm0_0 (l : Launch) (Z : State) (a0 : Array Value) (hw : ∀ d ∈ tables_1, d.before a0 Z = true) (ws : List Jvm.Cond) (p0 : Int32) (a_DELIVER a_REJECT a_QUARANTINE a_SMIME_SIGN a_SMIME_ENCRYPT a_SMIME_SIGN_ENCRYPT : Addr) (h0 : Heap) (n0 : Nat) (Z0 : n0 ≤ h0.size) (FF : Facts Z h0 a_DELIVER a_REJECT a_QUARANTINE a_SMIME_SIGN a_SMIME_ENCRYPT a_SMIME_SIGN_ENCRYPT) (hk0 : ((p0 &&& (2147483647 : Int32)) % (6 : Int32)) = (0 : Int32)) :
    MetFree l x (head1 (Jvm.Cond.code x code maxLocals ret :: ws) room_1) (fun a U => a = #[(.int p0)] ∧ Z.Warmed39 U.vm ∧ U.heap = h0) (fun _ _ _ _ _ => True) (fun _ U o U' => ∃ v L, o = .returned v ∧ (v = some (.int (1 : Int32)) ∧ Fr n0 L) ∧ FrameEnd U o U' L room_1.cells room_1.slots) := by
  refine MetFree.of_bodySF (plainFor_of_name pn_0) hisR ?_
  intro p e s m args below meth c s₁ Bd hml0 hP hK
  obtain ⟨rfl, hZ, hh⟩ := hP
  have hx := Bd.exec
  have hby := Bd.bytes
  have hml : c.maxLocals = 4 := hml0
  have hown : s.vm.findClass "com/example/mail_policy_gateway/mailpolicygateway/model/ActionDeliversPinLaw" = some m.cls := findClass_of_methodNamed Bd.named
  have X0 : Stand p l e room_1 s m #[(.int p0)] below meth c s₁ [] 0 0 := Stand.of_body Bd
  have e0 : s₁.heap = h0 := by rw [← hh, Bd.state]; rfl
  have N0 := Fr.nil n0
  have pre0 : ∀ t, Steps p.tables e below (s₁.setTop (mkF m 0 #[.val (.int p0), .unset, .unset, .unset] [])) t → Steps p.tables e below (s₁.setTop (entryFrame m #[(.int p0)] maxLocals)) t := fun t k => castTop (ef_0 m p0) k
  obtain ⟨T1, h1, k1, X1, e1, E1, A1, O1, st1⟩ := newR X0 hx hZ hown (hw _ (List.mem_of_getElem? (i := 0) rfl)) (hw _ (List.mem_of_getElem? (i := 1) rfl)) e0 (g := (mkF m 2 #[.val (.int p0), .unset, .unset, .unset] [(.int (6 : Int32))])) rfl (hb hby at_2) rfl (by decide) (cap := 6) (by decide) (by decide) (by decide) (by decide)
  obtain ⟨b1, g1⟩ : ∃ z, z = h0.size := ⟨_, rfl⟩
  rw [← g1] at A1 st1
  have V1 : Arv Z h1 b1 k1 (.object "com/example/mail_policy_gateway/mailpolicygateway/model/Action") (6 : Int32) [.null, .null, .null, .null, .null, .null] .null := (Arv.new A1 (by decide)).pad (pad_rep [] .null 6)
  have s_b1 : h0.size ≤ b1 := Nat.le_trans (Nat.le_refl _) (Nat.le_of_eq g1.symm)
  have z1 : h0.size ≤ h1.size := Nat.le_trans (Nat.le_refl _) E1.1
  have FF1 := Facts.ext FF E1
  obtain ⟨T2, X2, e2, st2⟩ := getS2 X1 hx hZ hown (host := "") (Or.inl (hw _ (List.mem_of_getElem? (i := 2) rfl))) Via.refl e1 (fx_S_DELIVER FF1) (g := (mkF m 8 #[.val (.int p0), .val (.ref b1), .unset, .unset] [(.int (0 : Int32)), (.ref b1)])) rfl (hb hby at_8)
  obtain ⟨c3, r3, q3, S3, M3, H3, G3⟩ := V1
  have i3 : ¬ ((0 : Int32) < 0 ∨ c3.slots.size ≤ ((0 : Int32)).toNatClampNeg) := inb_of S3 ⟨by decide, by decide⟩
  obtain ⟨T4, h4, X4, e4, W4, st4⟩ := stR X2 hx hZ e2 r3 (j := (0 : Int32)) i3 rfl (Sto.ofV r3 q3 O1 (Ins.self (fx_E_DELIVER FF1))) (g := (mkF m 11 #[.val (.int p0), .val (.ref b1), .unset, .unset] [(.ref a_DELIVER), (.int (0 : Int32)), (.ref b1)])) rfl rfl (hb hby at_11)
  have V4 : Arv Z h4 b1 k1 (.object "com/example/mail_policy_gateway/mailpolicygateway/model/Action") (6 : Int32) [(.ref a_DELIVER), .null, .null, .null, .null, .null] .null := Arv.set r3 q3 S3 M3 H3 G3 rfl W4 0 rfl (Nat.le_of_ble_eq_true rfl)
  have z4 : h0.size ≤ h4.size := Nat.le_trans z1 (Nat.le_of_eq W4.size.symm)
  have FF4 := Facts.wr FF FF1 W4 s_b1
  have N4 := Fr.snoc X4 N0 (Nat.le_trans Z0 s_b1)
  obtain ⟨T5, X5, e5, st5⟩ := getS2 X4 hx hZ hown (host := "") (Or.inl (hw _ (List.mem_of_getElem? (i := 6) rfl))) Via.refl e4 (fx_S_REJECT FF4) (g := (mkF m 14 #[.val (.int p0), .val (.ref b1), .unset, .unset] [(.int (1 : Int32)), (.ref b1)])) rfl (hb hby at_14)
  obtain ⟨c6, r6, q6, S6, M6, H6, G6⟩ := V4
  have i6 : ¬ ((1 : Int32) < 0 ∨ c6.slots.size ≤ ((1 : Int32)).toNatClampNeg) := inb_of S6 ⟨by decide, by decide⟩
  obtain ⟨T7, h7, X7, e7, W7, st7⟩ := stR X5 hx hZ e5 r6 (j := (1 : Int32)) i6 rfl (Sto.ofV r6 q6 O1 (Ins.self (fx_E_REJECT FF4))) (g := (mkF m 17 #[.val (.int p0), .val (.ref b1), .unset, .unset] [(.ref a_REJECT), (.int (1 : Int32)), (.ref b1)])) rfl rfl (hb hby at_17)
  have V7 : Arv Z h7 b1 k1 (.object "com/example/mail_policy_gateway/mailpolicygateway/model/Action") (6 : Int32) [(.ref a_DELIVER), (.ref a_REJECT), .null, .null, .null, .null] .null := Arv.set r6 q6 S6 M6 H6 G6 rfl W7 1 rfl (Nat.le_of_ble_eq_true rfl)
  have z7 : h0.size ≤ h7.size := Nat.le_trans z4 (Nat.le_of_eq W7.size.symm)
  have FF7 := Facts.wr FF FF4 W7 s_b1
  have N7 := Fr.snoc X7 N4 (Nat.le_trans Z0 s_b1)
  obtain ⟨T8, X8, e8, st8⟩ := getS2 X7 hx hZ hown (host := "") (Or.inl (hw _ (List.mem_of_getElem? (i := 8) rfl))) Via.refl e7 (fx_S_QUARANTINE FF7) (g := (mkF m 20 #[.val (.int p0), .val (.ref b1), .unset, .unset] [(.int (2 : Int32)), (.ref b1)])) rfl (hb hby at_20)
  obtain ⟨c9, r9, q9, S9, M9, H9, G9⟩ := V7
  have i9 : ¬ ((2 : Int32) < 0 ∨ c9.slots.size ≤ ((2 : Int32)).toNatClampNeg) := inb_of S9 ⟨by decide, by decide⟩
  obtain ⟨T10, h10, X10, e10, W10, st10⟩ := stR X8 hx hZ e8 r9 (j := (2 : Int32)) i9 rfl (Sto.ofV r9 q9 O1 (Ins.self (fx_E_QUARANTINE FF7))) (g := (mkF m 23 #[.val (.int p0), .val (.ref b1), .unset, .unset] [(.ref a_QUARANTINE), (.int (2 : Int32)), (.ref b1)])) rfl rfl (hb hby at_23)
  have V10 : Arv Z h10 b1 k1 (.object "com/example/mail_policy_gateway/mailpolicygateway/model/Action") (6 : Int32) [(.ref a_DELIVER), (.ref a_REJECT), (.ref a_QUARANTINE), .null, .null, .null] .null := Arv.set r9 q9 S9 M9 H9 G9 rfl W10 2 rfl (Nat.le_of_ble_eq_true rfl)
  have z10 : h0.size ≤ h10.size := Nat.le_trans z7 (Nat.le_of_eq W10.size.symm)
  have FF10 := Facts.wr FF FF7 W10 s_b1
  have N10 := Fr.snoc X10 N7 (Nat.le_trans Z0 s_b1)
  obtain ⟨T11, X11, e11, st11⟩ := getS2 X10 hx hZ hown (host := "") (Or.inl (hw _ (List.mem_of_getElem? (i := 10) rfl))) Via.refl e10 (fx_S_SMIME_SIGN FF10) (g := (mkF m 26 #[.val (.int p0), .val (.ref b1), .unset, .unset] [(.int (3 : Int32)), (.ref b1)])) rfl (hb hby at_26)
  obtain ⟨c12, r12, q12, S12, M12, H12, G12⟩ := V10
  have i12 : ¬ ((3 : Int32) < 0 ∨ c12.slots.size ≤ ((3 : Int32)).toNatClampNeg) := inb_of S12 ⟨by decide, by decide⟩
  obtain ⟨T13, h13, X13, e13, W13, st13⟩ := stR X11 hx hZ e11 r12 (j := (3 : Int32)) i12 rfl (Sto.ofV r12 q12 O1 (Ins.self (fx_E_SMIME_SIGN FF10))) (g := (mkF m 29 #[.val (.int p0), .val (.ref b1), .unset, .unset] [(.ref a_SMIME_SIGN), (.int (3 : Int32)), (.ref b1)])) rfl rfl (hb hby at_29)
  have V13 : Arv Z h13 b1 k1 (.object "com/example/mail_policy_gateway/mailpolicygateway/model/Action") (6 : Int32) [(.ref a_DELIVER), (.ref a_REJECT), (.ref a_QUARANTINE), (.ref a_SMIME_SIGN), .null, .null] .null := Arv.set r12 q12 S12 M12 H12 G12 rfl W13 3 rfl (Nat.le_of_ble_eq_true rfl)
  have z13 : h0.size ≤ h13.size := Nat.le_trans z10 (Nat.le_of_eq W13.size.symm)
  have FF13 := Facts.wr FF FF10 W13 s_b1
  have N13 := Fr.snoc X13 N10 (Nat.le_trans Z0 s_b1)
  obtain ⟨T14, X14, e14, st14⟩ := getS2 X13 hx hZ hown (host := "") (Or.inl (hw _ (List.mem_of_getElem? (i := 12) rfl))) Via.refl e13 (fx_S_SMIME_ENCRYPT FF13) (g := (mkF m 32 #[.val (.int p0), .val (.ref b1), .unset, .unset] [(.int (4 : Int32)), (.ref b1)])) rfl (hb hby at_32)
  obtain ⟨c15, r15, q15, S15, M15, H15, G15⟩ := V13
  have i15 : ¬ ((4 : Int32) < 0 ∨ c15.slots.size ≤ ((4 : Int32)).toNatClampNeg) := inb_of S15 ⟨by decide, by decide⟩
  obtain ⟨T16, h16, X16, e16, W16, st16⟩ := stR X14 hx hZ e14 r15 (j := (4 : Int32)) i15 rfl (Sto.ofV r15 q15 O1 (Ins.self (fx_E_SMIME_ENCRYPT FF13))) (g := (mkF m 35 #[.val (.int p0), .val (.ref b1), .unset, .unset] [(.ref a_SMIME_ENCRYPT), (.int (4 : Int32)), (.ref b1)])) rfl rfl (hb hby at_35)
  have V16 : Arv Z h16 b1 k1 (.object "com/example/mail_policy_gateway/mailpolicygateway/model/Action") (6 : Int32) [(.ref a_DELIVER), (.ref a_REJECT), (.ref a_QUARANTINE), (.ref a_SMIME_SIGN), (.ref a_SMIME_ENCRYPT), .null] .null := Arv.set r15 q15 S15 M15 H15 G15 rfl W16 4 rfl (Nat.le_of_ble_eq_true rfl)
  have z16 : h0.size ≤ h16.size := Nat.le_trans z13 (Nat.le_of_eq W16.size.symm)
  have FF16 := Facts.wr FF FF13 W16 s_b1
  have N16 := Fr.snoc X16 N13 (Nat.le_trans Z0 s_b1)
  obtain ⟨T17, X17, e17, st17⟩ := getS2 X16 hx hZ hown (host := "") (Or.inl (hw _ (List.mem_of_getElem? (i := 14) rfl))) Via.refl e16 (fx_S_SMIME_SIGN_ENCRYPT FF16) (g := (mkF m 38 #[.val (.int p0), .val (.ref b1), .unset, .unset] [(.int (5 : Int32)), (.ref b1)])) rfl (hb hby at_38)
  obtain ⟨c18, r18, q18, S18, M18, H18, G18⟩ := V16
  have i18 : ¬ ((5 : Int32) < 0 ∨ c18.slots.size ≤ ((5 : Int32)).toNatClampNeg) := inb_of S18 ⟨by decide, by decide⟩
  obtain ⟨T19, h19, X19, e19, W19, st19⟩ := stR X17 hx hZ e17 r18 (j := (5 : Int32)) i18 rfl (Sto.ofV r18 q18 O1 (Ins.self (fx_E_SMIME_SIGN_ENCRYPT FF16))) (g := (mkF m 41 #[.val (.int p0), .val (.ref b1), .unset, .unset] [(.ref a_SMIME_SIGN_ENCRYPT), (.int (5 : Int32)), (.ref b1)])) rfl rfl (hb hby at_41)
  have V19 : Arv Z h19 b1 k1 (.object "com/example/mail_policy_gateway/mailpolicygateway/model/Action") (6 : Int32) [(.ref a_DELIVER), (.ref a_REJECT), (.ref a_QUARANTINE), (.ref a_SMIME_SIGN), (.ref a_SMIME_ENCRYPT), (.ref a_SMIME_SIGN_ENCRYPT)] .null := Arv.set r18 q18 S18 M18 H18 G18 rfl W19 5 rfl (Nat.le_of_ble_eq_true rfl)
  have z19 : h0.size ≤ h19.size := Nat.le_trans z16 (Nat.le_of_eq W19.size.symm)
  have FF19 := Facts.wr FF FF16 W19 s_b1
  have N19 := Fr.snoc X19 N16 (Nat.le_trans Z0 s_b1)
  obtain ⟨c20, r20, -, S20, -, H20, -⟩ := V19
  have i20 : ¬ ((0 : Int32) < 0 ∨ c20.slots.size ≤ ((0 : Int32)).toNatClampNeg) := inb_of S20 ⟨by decide, by decide⟩
  have y20 : c20.slots[((0 : Int32)).toNatClampNeg]? = some (.ref a_DELIVER) := H20 0 (by rw [S20]; decide)
  obtain ⟨cq21, kq21, q21a, q21b, q21c⟩ := isOf hZ e19 (fx_E_DELIVER FF19)
  obtain ⟨_, _, ⟨T21, L21, k21, n21⟩, -, X21, ⟨Lc21, hQ21, l21, y21, z21⟩, st21⟩ := X19.virtualBack hx (y := (⟨"com/example/mail_policy_gateway/mailpolicygateway/model/Action", "delivers", "()Z"⟩ : MethodName)) (z := (⟨"com/example/mail_policy_gateway/mailpolicygateway/model/Action", "delivers", "()Z"⟩ : MethodName)) hown (mvT hZ (hw _ (List.mem_of_getElem? (i := 17) rfl))) (mvT hZ (hw _ (List.mem_of_getElem? (i := 18) rfl))) (notFace_of_selects (args := #[]) (mvT hZ (hw _ (List.mem_of_getElem? (i := 20) rfl)))) (mvT hZ (hw _ (List.mem_of_getElem? (i := 20) rfl))) (mvT hZ (hw _ (List.mem_of_getElem? (i := 19) rfl))) (by decide) (backOf (W := 0) (rm1_0 l Z a0 hw [] p0 a_DELIVER a_REJECT a_QUARANTINE a_SMIME_SIGN a_SMIME_ENCRYPT a_SMIME_SIGN_ENCRYPT h19 n0 (Nat.le_trans Z0 z19) FF19) hZ (hw _ (List.mem_of_getElem? (i := 21) rfl)) (hw _ (List.mem_of_getElem? (i := 3) rfl)) (by decide) (by decide)) q21a q21c (g := (mkF m 75 #[.val (.int p0), .val (.ref b1), .val (.int (0 : Int32)), .val (.int (1 : Int32))] [(.ref a_DELIVER)])) rfl (by rw [hml]; rfl) (Steps.refl _) (argsL := []) (rest := []) (lenOf pd_0 rfl) rfl (by show 2 * 0 + _ ≤ _; exact Nat.le_of_eq rfl) (hb hby at_75) (fun _ _ => ⟨rfl, e19, (by decide : 1 + 0 ≤ _), (by decide : 6 + 0 ≤ _)⟩)
  dsimp only [Pt.U, Pt.locs, Pt.cells, Pt.slots] at X21 l21 y21 z21 st21 hQ21
  subst l21 y21 z21
  obtain ⟨rfl, N21q, e21⟩ := hQ21
  have N21 := Fr.app N19 N21q
  obtain ⟨fs, hr, hrun, hended, hW, hsame⟩ := X21.leave (v := some (.int (1 : Int32))) (fun h => by rw [Bd.returns] at h; cases h)
  refine ⟨_, _, pre0 _ ?_, hrun, hended, _, _, rfl, ?_, ⟨_, rfl⟩, hW, hsame.mono (by decide) (by decide)⟩
  · show Steps p.tables e below (s₁.setTop (mkF m 0 #[.val (.int p0), .unset, .unset, .unset] [])) _
    refine XS.bipush X0.here hx rfl (hb hby at_0) ?_
    show Steps p.tables e below (s₁.setTop (mkF m 2 #[.val (.int p0), .unset, .unset, .unset] [(.int (6 : Int32))])) _
    refine st1 _ ?_
    show Steps p.tables e below (T1.setTop (mkF m 5 #[.val (.int p0), .unset, .unset, .unset] [(.ref b1)])) _
    refine XS.astoreN X1.here hx rfl (hb hby at_5) rfl rfl (l' := #[.val (.int p0), .val (.ref b1), .unset, .unset]) rfl ?_
    show Steps p.tables e below (T1.setTop (mkF m 6 #[.val (.int p0), .val (.ref b1), .unset, .unset] [])) _
    refine XS.aloadN X1.here hx rfl (hb hby at_6) rfl rfl ?_
    show Steps p.tables e below (T1.setTop (mkF m 7 #[.val (.int p0), .val (.ref b1), .unset, .unset] [(.ref b1)])) _
    refine XS.iconst X1.here hx rfl (hb hby at_7) ?_
    show Steps p.tables e below (T1.setTop (mkF m 8 #[.val (.int p0), .val (.ref b1), .unset, .unset] [(.int (0 : Int32)), (.ref b1)])) _
    refine st2 _ ?_
    show Steps p.tables e below (T2.setTop (mkF m 11 #[.val (.int p0), .val (.ref b1), .unset, .unset] [(.ref a_DELIVER), (.int (0 : Int32)), (.ref b1)])) _
    refine st4 _ ?_
    show Steps p.tables e below (T4.setTop (mkF m 12 #[.val (.int p0), .val (.ref b1), .unset, .unset] [])) _
    refine XS.aloadN X4.here hx rfl (hb hby at_12) rfl rfl ?_
    show Steps p.tables e below (T4.setTop (mkF m 13 #[.val (.int p0), .val (.ref b1), .unset, .unset] [(.ref b1)])) _
    refine XS.iconst X4.here hx rfl (hb hby at_13) ?_
    show Steps p.tables e below (T4.setTop (mkF m 14 #[.val (.int p0), .val (.ref b1), .unset, .unset] [(.int (1 : Int32)), (.ref b1)])) _
    refine st5 _ ?_
    show Steps p.tables e below (T5.setTop (mkF m 17 #[.val (.int p0), .val (.ref b1), .unset, .unset] [(.ref a_REJECT), (.int (1 : Int32)), (.ref b1)])) _
    refine st7 _ ?_
    show Steps p.tables e below (T7.setTop (mkF m 18 #[.val (.int p0), .val (.ref b1), .unset, .unset] [])) _
    refine XS.aloadN X7.here hx rfl (hb hby at_18) rfl rfl ?_
    show Steps p.tables e below (T7.setTop (mkF m 19 #[.val (.int p0), .val (.ref b1), .unset, .unset] [(.ref b1)])) _
    refine XS.iconst X7.here hx rfl (hb hby at_19) ?_
    show Steps p.tables e below (T7.setTop (mkF m 20 #[.val (.int p0), .val (.ref b1), .unset, .unset] [(.int (2 : Int32)), (.ref b1)])) _
    refine st8 _ ?_
    show Steps p.tables e below (T8.setTop (mkF m 23 #[.val (.int p0), .val (.ref b1), .unset, .unset] [(.ref a_QUARANTINE), (.int (2 : Int32)), (.ref b1)])) _
    refine st10 _ ?_
    show Steps p.tables e below (T10.setTop (mkF m 24 #[.val (.int p0), .val (.ref b1), .unset, .unset] [])) _
    refine XS.aloadN X10.here hx rfl (hb hby at_24) rfl rfl ?_
    show Steps p.tables e below (T10.setTop (mkF m 25 #[.val (.int p0), .val (.ref b1), .unset, .unset] [(.ref b1)])) _
    refine XS.iconst X10.here hx rfl (hb hby at_25) ?_
    show Steps p.tables e below (T10.setTop (mkF m 26 #[.val (.int p0), .val (.ref b1), .unset, .unset] [(.int (3 : Int32)), (.ref b1)])) _
    refine st11 _ ?_
    show Steps p.tables e below (T11.setTop (mkF m 29 #[.val (.int p0), .val (.ref b1), .unset, .unset] [(.ref a_SMIME_SIGN), (.int (3 : Int32)), (.ref b1)])) _
    refine st13 _ ?_
    show Steps p.tables e below (T13.setTop (mkF m 30 #[.val (.int p0), .val (.ref b1), .unset, .unset] [])) _
    refine XS.aloadN X13.here hx rfl (hb hby at_30) rfl rfl ?_
    show Steps p.tables e below (T13.setTop (mkF m 31 #[.val (.int p0), .val (.ref b1), .unset, .unset] [(.ref b1)])) _
    refine XS.iconst X13.here hx rfl (hb hby at_31) ?_
    show Steps p.tables e below (T13.setTop (mkF m 32 #[.val (.int p0), .val (.ref b1), .unset, .unset] [(.int (4 : Int32)), (.ref b1)])) _
    refine st14 _ ?_
    show Steps p.tables e below (T14.setTop (mkF m 35 #[.val (.int p0), .val (.ref b1), .unset, .unset] [(.ref a_SMIME_ENCRYPT), (.int (4 : Int32)), (.ref b1)])) _
    refine st16 _ ?_
    show Steps p.tables e below (T16.setTop (mkF m 36 #[.val (.int p0), .val (.ref b1), .unset, .unset] [])) _
    refine XS.aloadN X16.here hx rfl (hb hby at_36) rfl rfl ?_
    show Steps p.tables e below (T16.setTop (mkF m 37 #[.val (.int p0), .val (.ref b1), .unset, .unset] [(.ref b1)])) _
    refine XS.iconst X16.here hx rfl (hb hby at_37) ?_
    show Steps p.tables e below (T16.setTop (mkF m 38 #[.val (.int p0), .val (.ref b1), .unset, .unset] [(.int (5 : Int32)), (.ref b1)])) _
    refine st17 _ ?_
    show Steps p.tables e below (T17.setTop (mkF m 41 #[.val (.int p0), .val (.ref b1), .unset, .unset] [(.ref a_SMIME_SIGN_ENCRYPT), (.int (5 : Int32)), (.ref b1)])) _
    refine st19 _ ?_
    show Steps p.tables e below (T19.setTop (mkF m 42 #[.val (.int p0), .val (.ref b1), .unset, .unset] [])) _
    refine XS.iloadN X19.here hx rfl (hb hby at_42) rfl ?_
    show Steps p.tables e below (T19.setTop (mkF m 43 #[.val (.int p0), .val (.ref b1), .unset, .unset] [(.int p0)])) _
    refine X19.ldcInt hx hown (mvT hZ (hw _ (List.mem_of_getElem? (i := 16) rfl))) (g := (mkF m 43 #[.val (.int p0), .val (.ref b1), .unset, .unset] [(.int p0)])) rfl (hb hby at_43) _ ?_
    show Steps p.tables e below (T19.setTop (mkF m 45 #[.val (.int p0), .val (.ref b1), .unset, .unset] [(.int (2147483647 : Int32)), (.int p0)])) _
    refine XS.iand X19.here hx rfl (hb hby at_45) rfl ?_
    show Steps p.tables e below (T19.setTop (mkF m 46 #[.val (.int p0), .val (.ref b1), .unset, .unset] [(.int (p0 &&& (2147483647 : Int32)))])) _
    refine XS.bipush X19.here hx rfl (hb hby at_46) ?_
    show Steps p.tables e below (T19.setTop (mkF m 48 #[.val (.int p0), .val (.ref b1), .unset, .unset] [(.int (6 : Int32)), (.int (p0 &&& (2147483647 : Int32)))])) _
    refine iremM X19 hx rfl (hb hby at_48) rfl (by decide) ?_
    show Steps p.tables e below (T19.setTop (mkF m 49 #[.val (.int p0), .val (.ref b1), .unset, .unset] [(.int ((p0 &&& (2147483647 : Int32)) % (6 : Int32)))])) _
    rw [hk0]
    show Steps p.tables e below (T19.setTop (mkF m 49 #[.val (.int p0), .val (.ref b1), .unset, .unset] [(.int (0 : Int32))])) _
    refine XS.istoreN X19.here hx rfl (hb hby at_49) rfl (l' := #[.val (.int p0), .val (.ref b1), .val (.int (0 : Int32)), .unset]) rfl ?_
    show Steps p.tables e below (T19.setTop (mkF m 50 #[.val (.int p0), .val (.ref b1), .val (.int (0 : Int32)), .unset] [])) _
    refine XS.iloadN X19.here hx rfl (hb hby at_50) rfl ?_
    show Steps p.tables e below (T19.setTop (mkF m 51 #[.val (.int p0), .val (.ref b1), .val (.int (0 : Int32)), .unset] [(.int (0 : Int32))])) _
    refine XS.iconst X19.here hx rfl (hb hby at_51) ?_
    show Steps p.tables e below (T19.setTop (mkF m 52 #[.val (.int p0), .val (.ref b1), .val (.int (0 : Int32)), .unset] [(.int (1 : Int32)), (.int (0 : Int32))])) _
    refine XS.icmpYes X19.here hx rfl (pc0 := 52) (pc' := 60) rfl (hb hby at_52) rfl (by decide) (by decide) (by decide) ?_
    show Steps p.tables e below (T19.setTop (mkF m 60 #[.val (.int p0), .val (.ref b1), .val (.int (0 : Int32)), .unset] [])) _
    refine XS.iloadN X19.here hx rfl (hb hby at_60) rfl ?_
    show Steps p.tables e below (T19.setTop (mkF m 61 #[.val (.int p0), .val (.ref b1), .val (.int (0 : Int32)), .unset] [(.int (0 : Int32))])) _
    refine XS.iconst X19.here hx rfl (hb hby at_61) ?_
    show Steps p.tables e below (T19.setTop (mkF m 62 #[.val (.int p0), .val (.ref b1), .val (.int (0 : Int32)), .unset] [(.int (2 : Int32)), (.int (0 : Int32))])) _
    refine XS.icmpYes X19.here hx rfl (pc0 := 62) (pc' := 70) rfl (hb hby at_62) rfl (by decide) (by decide) (by decide) ?_
    show Steps p.tables e below (T19.setTop (mkF m 70 #[.val (.int p0), .val (.ref b1), .val (.int (0 : Int32)), .unset] [])) _
    refine XS.iconst X19.here hx rfl (hb hby at_70) ?_
    show Steps p.tables e below (T19.setTop (mkF m 71 #[.val (.int p0), .val (.ref b1), .val (.int (0 : Int32)), .unset] [(.int (1 : Int32))])) _
    refine XS.istoreN X19.here hx rfl (hb hby at_71) rfl (l' := #[.val (.int p0), .val (.ref b1), .val (.int (0 : Int32)), .val (.int (1 : Int32))]) rfl ?_
    show Steps p.tables e below (T19.setTop (mkF m 72 #[.val (.int p0), .val (.ref b1), .val (.int (0 : Int32)), .val (.int (1 : Int32))] [])) _
    refine XS.aloadN X19.here hx rfl (hb hby at_72) rfl rfl ?_
    show Steps p.tables e below (T19.setTop (mkF m 73 #[.val (.int p0), .val (.ref b1), .val (.int (0 : Int32)), .val (.int (1 : Int32))] [(.ref b1)])) _
    refine XS.iloadN X19.here hx rfl (hb hby at_73) rfl ?_
    show Steps p.tables e below (T19.setTop (mkF m 74 #[.val (.int p0), .val (.ref b1), .val (.int (0 : Int32)), .val (.int (1 : Int32))] [(.int (0 : Int32)), (.ref b1)])) _
    refine X19.aaload hx (j := (0 : Int32)) (v := (.ref a_DELIVER)) (by rw [e19]; exact r20.1) (State.isArrayOf_alike hZ.alike r20.2.1) rfl r20.2.2 i20 y20 (g := (mkF m 74 #[.val (.int p0), .val (.ref b1), .val (.int (0 : Int32)), .val (.int (1 : Int32))] [(.int (0 : Int32)), (.ref b1)])) rfl rfl (hb hby at_74) _ ?_
    show Steps p.tables e below (T19.setTop (mkF m 75 #[.val (.int p0), .val (.ref b1), .val (.int (0 : Int32)), .val (.int (1 : Int32))] [(.ref a_DELIVER)])) _
    refine st21.trans ?_
    show Steps p.tables e below (T21.setTop (mkF m 78 #[.val (.int p0), .val (.ref b1), .val (.int (0 : Int32)), .val (.int (1 : Int32))] [(.int (1 : Int32))])) _
    refine XS.iloadN X21.here hx rfl (hb hby at_78) rfl ?_
    show Steps p.tables e below (T21.setTop (mkF m 79 #[.val (.int p0), .val (.ref b1), .val (.int (0 : Int32)), .val (.int (1 : Int32))] [(.int (1 : Int32)), (.int (1 : Int32))])) _
    refine XS.icmpNo X21.here hx rfl (hb hby at_79) rfl (by decide) ?_
    show Steps p.tables e below (T21.setTop (mkF m 82 #[.val (.int p0), .val (.ref b1), .val (.int (0 : Int32)), .val (.int (1 : Int32))] [])) _
    refine XS.iconst X21.here hx rfl (hb hby at_82) ?_
    show Steps p.tables e below (T21.setTop (mkF m 83 #[.val (.int p0), .val (.ref b1), .val (.int (0 : Int32)), .val (.int (1 : Int32))] [(.int (1 : Int32))])) _
    refine XS.goto X21.here hx rfl (pc0 := 83) (pc' := 87) rfl (hb hby at_83) (by decide) (by decide) ?_
    show Steps p.tables e below (T21.setTop (mkF m 87 #[.val (.int p0), .val (.ref b1), .val (.int (0 : Int32)), .val (.int (1 : Int32))] [(.int (1 : Int32))])) _
    exact retN X21 hx (t := .boolean) Bd.returns (by simp) (hb hby at_87) hr
  · exact ⟨rfl, N21⟩
set_option maxRecDepth 65536 in
set_option maxHeartbeats 40000000 in
theorem rm1_1 (l : Launch) (Z : State) (a0 : Array Value) (hw : ∀ d ∈ tables_1, d.before a0 Z = true) (ws : List Jvm.Cond) (p0 : Int32) (a_DELIVER a_REJECT a_QUARANTINE a_SMIME_SIGN a_SMIME_ENCRYPT a_SMIME_SIGN_ENCRYPT : Addr) (h0 : Heap) (n0 : Nat) (Z0 : n0 ≤ h0.size) (FF : Facts Z h0 a_DELIVER a_REJECT a_QUARANTINE a_SMIME_SIGN a_SMIME_ENCRYPT a_SMIME_SIGN_ENCRYPT) :
    MetFree l (⟨"com/example/mail_policy_gateway/mailpolicygateway/model/Action", "delivers", "()Z"⟩ : MethodName) (head1 (Jvm.Cond.code (⟨"com/example/mail_policy_gateway/mailpolicygateway/model/Action", "delivers", "()Z"⟩ : MethodName) prog_34_method_6_code 1 (some .boolean) :: ws) ({ frames := 0, cells := 0, slots := 0, locals := 0 } : Room)) (fun a U => a = #[(.ref a_REJECT)] ∧ Z.Warmed39 U.vm ∧ U.heap = h0) (fun _ _ _ _ _ => True) (fun _ U o U' => ∃ v L, o = .returned v ∧ own_Q (.int (0 : Int32)) h0 n0 v U'.heap L ∧ FrameEnd U o U' L ({ frames := 0, cells := 0, slots := 0, locals := 0 } : Room).cells ({ frames := 0, cells := 0, slots := 0, locals := 0 } : Room).slots) := by
  refine MetFree.of_bodySF (plainFor_of_name pn_1) hisR ?_
  intro p e s m args below meth c s₁ Bd hml0 hP hK
  obtain ⟨rfl, hZ, hh⟩ := hP
  have hx := Bd.exec
  have hby := Bd.bytes
  have hml : c.maxLocals = 1 := hml0
  have hown : s.vm.findClass "com/example/mail_policy_gateway/mailpolicygateway/model/Action" = some m.cls := findClass_of_methodNamed Bd.named
  have X0 : Stand p l e ({ frames := 0, cells := 0, slots := 0, locals := 0 } : Room) s m #[(.ref a_REJECT)] below meth c s₁ [] 0 0 := Stand.of_body Bd
  have e0 : s₁.heap = h0 := by rw [← hh, Bd.state]; rfl
  have N0 := Fr.nil n0
  have pre0 : ∀ t, Steps p.tables e below (s₁.setTop (mkF m 0 #[.val (.ref a_REJECT)] [])) t → Steps p.tables e below (s₁.setTop (entryFrame m #[(.ref a_REJECT)] 1)) t := fun t k => castTop (ef_1 m a_REJECT) k
  obtain ⟨T1, X1, e1, st1⟩ := getS2 X0 hx hZ hown (host := "") (Or.inl (hw _ (List.mem_of_getElem? (i := 22) rfl))) Via.refl e0 (fx_S_DELIVER FF) (g := (mkF m 1 #[.val (.ref a_REJECT)] [(.ref a_REJECT)])) rfl (hb hby d1_1)
  obtain ⟨T2, X2, e2, st2⟩ := getF X1 hx hZ hown (host := "") (Or.inl (hw _ (List.mem_of_getElem? (i := 23) rfl))) Via.refl e1 (fx_F_REJECT_signs FF) (g := (mkF m 8 #[.val (.ref a_REJECT)] [(.ref a_REJECT)])) rfl rfl (hb hby d1_8)
  obtain ⟨T3, X3, e3, st3⟩ := getF X2 hx hZ hown (host := "") (Or.inl (hw _ (List.mem_of_getElem? (i := 25) rfl))) Via.refl e2 (fx_F_REJECT_encrypts FF) (g := (mkF m 15 #[.val (.ref a_REJECT)] [(.ref a_REJECT)])) rfl rfl (hb hby d1_15)
  obtain ⟨fs, hr, hrun, hended, hW, hsame⟩ := X3.leave (v := some (.int (0 : Int32))) (fun h => by rw [Bd.returns] at h; cases h)
  refine ⟨_, _, pre0 _ ?_, hrun, hended, _, _, rfl, ?_, ⟨_, rfl⟩, hW, hsame.mono (by decide) (by decide)⟩
  · show Steps p.tables e below (s₁.setTop (mkF m 0 #[.val (.ref a_REJECT)] [])) _
    refine XS.aloadN X0.here hx rfl (hb hby d1_0) rfl rfl ?_
    show Steps p.tables e below (s₁.setTop (mkF m 1 #[.val (.ref a_REJECT)] [(.ref a_REJECT)])) _
    refine st1 _ ?_
    show Steps p.tables e below (T1.setTop (mkF m 4 #[.val (.ref a_REJECT)] [(.ref a_DELIVER), (.ref a_REJECT)])) _
    refine Jvm.RoadKit.acmp (g := (mkF m 4 #[.val (.ref a_REJECT)] [(.ref a_DELIVER), (.ref a_REJECT)])) X1 hx rfl rfl rfl (pc0 := 4) (pc' := 7) (same := false) rfl (hb hby d1_4) rfl (decide_eq_false fun q => Fld.ne (fx_F_REJECT_ordinal FF) (fx_F_DELIVER_ordinal FF) (by decide) (Value.ref.inj q)) (by decide) (by decide) ?_
    show Steps p.tables e below (T1.setTop (mkF m 7 #[.val (.ref a_REJECT)] [])) _
    refine XS.aloadN X1.here hx rfl (hb hby d1_7) rfl rfl ?_
    show Steps p.tables e below (T1.setTop (mkF m 8 #[.val (.ref a_REJECT)] [(.ref a_REJECT)])) _
    refine st2 _ ?_
    show Steps p.tables e below (T2.setTop (mkF m 11 #[.val (.ref a_REJECT)] [(.int (0 : Int32))])) _
    refine XS.ifNo X2.here hx rfl (hb hby d1_11) rfl (by decide) ?_
    show Steps p.tables e below (T2.setTop (mkF m 14 #[.val (.ref a_REJECT)] [])) _
    refine XS.aloadN X2.here hx rfl (hb hby d1_14) rfl rfl ?_
    show Steps p.tables e below (T2.setTop (mkF m 15 #[.val (.ref a_REJECT)] [(.ref a_REJECT)])) _
    refine st3 _ ?_
    show Steps p.tables e below (T3.setTop (mkF m 18 #[.val (.ref a_REJECT)] [(.int (0 : Int32))])) _
    refine XS.ifYes X3.here hx rfl (pc0 := 18) (pc' := 25) rfl (hb hby d1_18) rfl (by decide) (by decide) (by decide) ?_
    show Steps p.tables e below (T3.setTop (mkF m 25 #[.val (.ref a_REJECT)] [])) _
    refine XS.iconst X3.here hx rfl (hb hby d1_25) ?_
    show Steps p.tables e below (T3.setTop (mkF m 26 #[.val (.ref a_REJECT)] [(.int (0 : Int32))])) _
    exact retN X3 hx (t := .boolean) Bd.returns (by simp) (hb hby d1_26) hr
  · show own_Q _ _ _ _ T3.heap _
    exact ⟨rfl, N0, e3⟩
set_option maxRecDepth 65536 in
set_option maxHeartbeats 40000000 in
theorem rm0_1 (l : Launch) (Z : State) (a0 : Array Value) (hw : ∀ d ∈ tables_1, d.before a0 Z = true) (ws : List Jvm.Cond) (p0 : Int32) (a_DELIVER a_REJECT a_QUARANTINE a_SMIME_SIGN a_SMIME_ENCRYPT a_SMIME_SIGN_ENCRYPT : Addr) (h0 : Heap) (n0 : Nat) (Z0 : n0 ≤ h0.size) (FF : Facts Z h0 a_DELIVER a_REJECT a_QUARANTINE a_SMIME_SIGN a_SMIME_ENCRYPT a_SMIME_SIGN_ENCRYPT) (hk0 : ((p0 &&& (2147483647 : Int32)) % (6 : Int32)) = (1 : Int32)) :
    MetFree l x (head1 (Jvm.Cond.code x code maxLocals ret :: ws) room_1) (fun a U => a = #[(.int p0)] ∧ Z.Warmed39 U.vm ∧ U.heap = h0) (fun _ _ _ _ _ => True) (fun _ U o U' => ∃ v L, o = .returned v ∧ (v = some (.int (1 : Int32)) ∧ Fr n0 L) ∧ FrameEnd U o U' L room_1.cells room_1.slots) := by
  refine MetFree.of_bodySF (plainFor_of_name pn_0) hisR ?_
  intro p e s m args below meth c s₁ Bd hml0 hP hK
  obtain ⟨rfl, hZ, hh⟩ := hP
  have hx := Bd.exec
  have hby := Bd.bytes
  have hml : c.maxLocals = 4 := hml0
  have hown : s.vm.findClass "com/example/mail_policy_gateway/mailpolicygateway/model/ActionDeliversPinLaw" = some m.cls := findClass_of_methodNamed Bd.named
  have X0 : Stand p l e room_1 s m #[(.int p0)] below meth c s₁ [] 0 0 := Stand.of_body Bd
  have e0 : s₁.heap = h0 := by rw [← hh, Bd.state]; rfl
  have N0 := Fr.nil n0
  have pre0 : ∀ t, Steps p.tables e below (s₁.setTop (mkF m 0 #[.val (.int p0), .unset, .unset, .unset] [])) t → Steps p.tables e below (s₁.setTop (entryFrame m #[(.int p0)] maxLocals)) t := fun t k => castTop (ef_0 m p0) k
  obtain ⟨T1, h1, k1, X1, e1, E1, A1, O1, st1⟩ := newR X0 hx hZ hown (hw _ (List.mem_of_getElem? (i := 0) rfl)) (hw _ (List.mem_of_getElem? (i := 1) rfl)) e0 (g := (mkF m 2 #[.val (.int p0), .unset, .unset, .unset] [(.int (6 : Int32))])) rfl (hb hby at_2) rfl (by decide) (cap := 6) (by decide) (by decide) (by decide) (by decide)
  obtain ⟨b1, g1⟩ : ∃ z, z = h0.size := ⟨_, rfl⟩
  rw [← g1] at A1 st1
  have V1 : Arv Z h1 b1 k1 (.object "com/example/mail_policy_gateway/mailpolicygateway/model/Action") (6 : Int32) [.null, .null, .null, .null, .null, .null] .null := (Arv.new A1 (by decide)).pad (pad_rep [] .null 6)
  have s_b1 : h0.size ≤ b1 := Nat.le_trans (Nat.le_refl _) (Nat.le_of_eq g1.symm)
  have z1 : h0.size ≤ h1.size := Nat.le_trans (Nat.le_refl _) E1.1
  have FF1 := Facts.ext FF E1
  obtain ⟨T2, X2, e2, st2⟩ := getS2 X1 hx hZ hown (host := "") (Or.inl (hw _ (List.mem_of_getElem? (i := 2) rfl))) Via.refl e1 (fx_S_DELIVER FF1) (g := (mkF m 8 #[.val (.int p0), .val (.ref b1), .unset, .unset] [(.int (0 : Int32)), (.ref b1)])) rfl (hb hby at_8)
  obtain ⟨c3, r3, q3, S3, M3, H3, G3⟩ := V1
  have i3 : ¬ ((0 : Int32) < 0 ∨ c3.slots.size ≤ ((0 : Int32)).toNatClampNeg) := inb_of S3 ⟨by decide, by decide⟩
  obtain ⟨T4, h4, X4, e4, W4, st4⟩ := stR X2 hx hZ e2 r3 (j := (0 : Int32)) i3 rfl (Sto.ofV r3 q3 O1 (Ins.self (fx_E_DELIVER FF1))) (g := (mkF m 11 #[.val (.int p0), .val (.ref b1), .unset, .unset] [(.ref a_DELIVER), (.int (0 : Int32)), (.ref b1)])) rfl rfl (hb hby at_11)
  have V4 : Arv Z h4 b1 k1 (.object "com/example/mail_policy_gateway/mailpolicygateway/model/Action") (6 : Int32) [(.ref a_DELIVER), .null, .null, .null, .null, .null] .null := Arv.set r3 q3 S3 M3 H3 G3 rfl W4 0 rfl (Nat.le_of_ble_eq_true rfl)
  have z4 : h0.size ≤ h4.size := Nat.le_trans z1 (Nat.le_of_eq W4.size.symm)
  have FF4 := Facts.wr FF FF1 W4 s_b1
  have N4 := Fr.snoc X4 N0 (Nat.le_trans Z0 s_b1)
  obtain ⟨T5, X5, e5, st5⟩ := getS2 X4 hx hZ hown (host := "") (Or.inl (hw _ (List.mem_of_getElem? (i := 6) rfl))) Via.refl e4 (fx_S_REJECT FF4) (g := (mkF m 14 #[.val (.int p0), .val (.ref b1), .unset, .unset] [(.int (1 : Int32)), (.ref b1)])) rfl (hb hby at_14)
  obtain ⟨c6, r6, q6, S6, M6, H6, G6⟩ := V4
  have i6 : ¬ ((1 : Int32) < 0 ∨ c6.slots.size ≤ ((1 : Int32)).toNatClampNeg) := inb_of S6 ⟨by decide, by decide⟩
  obtain ⟨T7, h7, X7, e7, W7, st7⟩ := stR X5 hx hZ e5 r6 (j := (1 : Int32)) i6 rfl (Sto.ofV r6 q6 O1 (Ins.self (fx_E_REJECT FF4))) (g := (mkF m 17 #[.val (.int p0), .val (.ref b1), .unset, .unset] [(.ref a_REJECT), (.int (1 : Int32)), (.ref b1)])) rfl rfl (hb hby at_17)
  have V7 : Arv Z h7 b1 k1 (.object "com/example/mail_policy_gateway/mailpolicygateway/model/Action") (6 : Int32) [(.ref a_DELIVER), (.ref a_REJECT), .null, .null, .null, .null] .null := Arv.set r6 q6 S6 M6 H6 G6 rfl W7 1 rfl (Nat.le_of_ble_eq_true rfl)
  have z7 : h0.size ≤ h7.size := Nat.le_trans z4 (Nat.le_of_eq W7.size.symm)
  have FF7 := Facts.wr FF FF4 W7 s_b1
  have N7 := Fr.snoc X7 N4 (Nat.le_trans Z0 s_b1)
  obtain ⟨T8, X8, e8, st8⟩ := getS2 X7 hx hZ hown (host := "") (Or.inl (hw _ (List.mem_of_getElem? (i := 8) rfl))) Via.refl e7 (fx_S_QUARANTINE FF7) (g := (mkF m 20 #[.val (.int p0), .val (.ref b1), .unset, .unset] [(.int (2 : Int32)), (.ref b1)])) rfl (hb hby at_20)
  obtain ⟨c9, r9, q9, S9, M9, H9, G9⟩ := V7
  have i9 : ¬ ((2 : Int32) < 0 ∨ c9.slots.size ≤ ((2 : Int32)).toNatClampNeg) := inb_of S9 ⟨by decide, by decide⟩
  obtain ⟨T10, h10, X10, e10, W10, st10⟩ := stR X8 hx hZ e8 r9 (j := (2 : Int32)) i9 rfl (Sto.ofV r9 q9 O1 (Ins.self (fx_E_QUARANTINE FF7))) (g := (mkF m 23 #[.val (.int p0), .val (.ref b1), .unset, .unset] [(.ref a_QUARANTINE), (.int (2 : Int32)), (.ref b1)])) rfl rfl (hb hby at_23)
  have V10 : Arv Z h10 b1 k1 (.object "com/example/mail_policy_gateway/mailpolicygateway/model/Action") (6 : Int32) [(.ref a_DELIVER), (.ref a_REJECT), (.ref a_QUARANTINE), .null, .null, .null] .null := Arv.set r9 q9 S9 M9 H9 G9 rfl W10 2 rfl (Nat.le_of_ble_eq_true rfl)
  have z10 : h0.size ≤ h10.size := Nat.le_trans z7 (Nat.le_of_eq W10.size.symm)
  have FF10 := Facts.wr FF FF7 W10 s_b1
  have N10 := Fr.snoc X10 N7 (Nat.le_trans Z0 s_b1)
  obtain ⟨T11, X11, e11, st11⟩ := getS2 X10 hx hZ hown (host := "") (Or.inl (hw _ (List.mem_of_getElem? (i := 10) rfl))) Via.refl e10 (fx_S_SMIME_SIGN FF10) (g := (mkF m 26 #[.val (.int p0), .val (.ref b1), .unset, .unset] [(.int (3 : Int32)), (.ref b1)])) rfl (hb hby at_26)
  obtain ⟨c12, r12, q12, S12, M12, H12, G12⟩ := V10
  have i12 : ¬ ((3 : Int32) < 0 ∨ c12.slots.size ≤ ((3 : Int32)).toNatClampNeg) := inb_of S12 ⟨by decide, by decide⟩
  obtain ⟨T13, h13, X13, e13, W13, st13⟩ := stR X11 hx hZ e11 r12 (j := (3 : Int32)) i12 rfl (Sto.ofV r12 q12 O1 (Ins.self (fx_E_SMIME_SIGN FF10))) (g := (mkF m 29 #[.val (.int p0), .val (.ref b1), .unset, .unset] [(.ref a_SMIME_SIGN), (.int (3 : Int32)), (.ref b1)])) rfl rfl (hb hby at_29)
  have V13 : Arv Z h13 b1 k1 (.object "com/example/mail_policy_gateway/mailpolicygateway/model/Action") (6 : Int32) [(.ref a_DELIVER), (.ref a_REJECT), (.ref a_QUARANTINE), (.ref a_SMIME_SIGN), .null, .null] .null := Arv.set r12 q12 S12 M12 H12 G12 rfl W13 3 rfl (Nat.le_of_ble_eq_true rfl)
  have z13 : h0.size ≤ h13.size := Nat.le_trans z10 (Nat.le_of_eq W13.size.symm)
  have FF13 := Facts.wr FF FF10 W13 s_b1
  have N13 := Fr.snoc X13 N10 (Nat.le_trans Z0 s_b1)
  obtain ⟨T14, X14, e14, st14⟩ := getS2 X13 hx hZ hown (host := "") (Or.inl (hw _ (List.mem_of_getElem? (i := 12) rfl))) Via.refl e13 (fx_S_SMIME_ENCRYPT FF13) (g := (mkF m 32 #[.val (.int p0), .val (.ref b1), .unset, .unset] [(.int (4 : Int32)), (.ref b1)])) rfl (hb hby at_32)
  obtain ⟨c15, r15, q15, S15, M15, H15, G15⟩ := V13
  have i15 : ¬ ((4 : Int32) < 0 ∨ c15.slots.size ≤ ((4 : Int32)).toNatClampNeg) := inb_of S15 ⟨by decide, by decide⟩
  obtain ⟨T16, h16, X16, e16, W16, st16⟩ := stR X14 hx hZ e14 r15 (j := (4 : Int32)) i15 rfl (Sto.ofV r15 q15 O1 (Ins.self (fx_E_SMIME_ENCRYPT FF13))) (g := (mkF m 35 #[.val (.int p0), .val (.ref b1), .unset, .unset] [(.ref a_SMIME_ENCRYPT), (.int (4 : Int32)), (.ref b1)])) rfl rfl (hb hby at_35)
  have V16 : Arv Z h16 b1 k1 (.object "com/example/mail_policy_gateway/mailpolicygateway/model/Action") (6 : Int32) [(.ref a_DELIVER), (.ref a_REJECT), (.ref a_QUARANTINE), (.ref a_SMIME_SIGN), (.ref a_SMIME_ENCRYPT), .null] .null := Arv.set r15 q15 S15 M15 H15 G15 rfl W16 4 rfl (Nat.le_of_ble_eq_true rfl)
  have z16 : h0.size ≤ h16.size := Nat.le_trans z13 (Nat.le_of_eq W16.size.symm)
  have FF16 := Facts.wr FF FF13 W16 s_b1
  have N16 := Fr.snoc X16 N13 (Nat.le_trans Z0 s_b1)
  obtain ⟨T17, X17, e17, st17⟩ := getS2 X16 hx hZ hown (host := "") (Or.inl (hw _ (List.mem_of_getElem? (i := 14) rfl))) Via.refl e16 (fx_S_SMIME_SIGN_ENCRYPT FF16) (g := (mkF m 38 #[.val (.int p0), .val (.ref b1), .unset, .unset] [(.int (5 : Int32)), (.ref b1)])) rfl (hb hby at_38)
  obtain ⟨c18, r18, q18, S18, M18, H18, G18⟩ := V16
  have i18 : ¬ ((5 : Int32) < 0 ∨ c18.slots.size ≤ ((5 : Int32)).toNatClampNeg) := inb_of S18 ⟨by decide, by decide⟩
  obtain ⟨T19, h19, X19, e19, W19, st19⟩ := stR X17 hx hZ e17 r18 (j := (5 : Int32)) i18 rfl (Sto.ofV r18 q18 O1 (Ins.self (fx_E_SMIME_SIGN_ENCRYPT FF16))) (g := (mkF m 41 #[.val (.int p0), .val (.ref b1), .unset, .unset] [(.ref a_SMIME_SIGN_ENCRYPT), (.int (5 : Int32)), (.ref b1)])) rfl rfl (hb hby at_41)
  have V19 : Arv Z h19 b1 k1 (.object "com/example/mail_policy_gateway/mailpolicygateway/model/Action") (6 : Int32) [(.ref a_DELIVER), (.ref a_REJECT), (.ref a_QUARANTINE), (.ref a_SMIME_SIGN), (.ref a_SMIME_ENCRYPT), (.ref a_SMIME_SIGN_ENCRYPT)] .null := Arv.set r18 q18 S18 M18 H18 G18 rfl W19 5 rfl (Nat.le_of_ble_eq_true rfl)
  have z19 : h0.size ≤ h19.size := Nat.le_trans z16 (Nat.le_of_eq W19.size.symm)
  have FF19 := Facts.wr FF FF16 W19 s_b1
  have N19 := Fr.snoc X19 N16 (Nat.le_trans Z0 s_b1)
  obtain ⟨c20, r20, -, S20, -, H20, -⟩ := V19
  have i20 : ¬ ((1 : Int32) < 0 ∨ c20.slots.size ≤ ((1 : Int32)).toNatClampNeg) := inb_of S20 ⟨by decide, by decide⟩
  have y20 : c20.slots[((1 : Int32)).toNatClampNeg]? = some (.ref a_REJECT) := H20 1 (by rw [S20]; decide)
  obtain ⟨cq21, kq21, q21a, q21b, q21c⟩ := isOf hZ e19 (fx_E_REJECT FF19)
  obtain ⟨_, _, ⟨T21, L21, k21, n21⟩, -, X21, ⟨Lc21, hQ21, l21, y21, z21⟩, st21⟩ := X19.virtualBack hx (y := (⟨"com/example/mail_policy_gateway/mailpolicygateway/model/Action", "delivers", "()Z"⟩ : MethodName)) (z := (⟨"com/example/mail_policy_gateway/mailpolicygateway/model/Action", "delivers", "()Z"⟩ : MethodName)) hown (mvT hZ (hw _ (List.mem_of_getElem? (i := 17) rfl))) (mvT hZ (hw _ (List.mem_of_getElem? (i := 18) rfl))) (notFace_of_selects (args := #[]) (mvT hZ (hw _ (List.mem_of_getElem? (i := 20) rfl)))) (mvT hZ (hw _ (List.mem_of_getElem? (i := 20) rfl))) (mvT hZ (hw _ (List.mem_of_getElem? (i := 19) rfl))) (by decide) (backOf (W := 0) (rm1_1 l Z a0 hw [] p0 a_DELIVER a_REJECT a_QUARANTINE a_SMIME_SIGN a_SMIME_ENCRYPT a_SMIME_SIGN_ENCRYPT h19 n0 (Nat.le_trans Z0 z19) FF19) hZ (hw _ (List.mem_of_getElem? (i := 21) rfl)) (hw _ (List.mem_of_getElem? (i := 3) rfl)) (by decide) (by decide)) q21a q21c (g := (mkF m 75 #[.val (.int p0), .val (.ref b1), .val (.int (1 : Int32)), .val (.int (0 : Int32))] [(.ref a_REJECT)])) rfl (by rw [hml]; rfl) (Steps.refl _) (argsL := []) (rest := []) (lenOf pd_0 rfl) rfl (by show 2 * 0 + _ ≤ _; exact Nat.le_of_eq rfl) (hb hby at_75) (fun _ _ => ⟨rfl, e19, (by decide : 1 + 0 ≤ _), (by decide : 6 + 0 ≤ _)⟩)
  dsimp only [Pt.U, Pt.locs, Pt.cells, Pt.slots] at X21 l21 y21 z21 st21 hQ21
  subst l21 y21 z21
  obtain ⟨rfl, N21q, e21⟩ := hQ21
  have N21 := Fr.app N19 N21q
  obtain ⟨fs, hr, hrun, hended, hW, hsame⟩ := X21.leave (v := some (.int (1 : Int32))) (fun h => by rw [Bd.returns] at h; cases h)
  refine ⟨_, _, pre0 _ ?_, hrun, hended, _, _, rfl, ?_, ⟨_, rfl⟩, hW, hsame.mono (by decide) (by decide)⟩
  · show Steps p.tables e below (s₁.setTop (mkF m 0 #[.val (.int p0), .unset, .unset, .unset] [])) _
    refine XS.bipush X0.here hx rfl (hb hby at_0) ?_
    show Steps p.tables e below (s₁.setTop (mkF m 2 #[.val (.int p0), .unset, .unset, .unset] [(.int (6 : Int32))])) _
    refine st1 _ ?_
    show Steps p.tables e below (T1.setTop (mkF m 5 #[.val (.int p0), .unset, .unset, .unset] [(.ref b1)])) _
    refine XS.astoreN X1.here hx rfl (hb hby at_5) rfl rfl (l' := #[.val (.int p0), .val (.ref b1), .unset, .unset]) rfl ?_
    show Steps p.tables e below (T1.setTop (mkF m 6 #[.val (.int p0), .val (.ref b1), .unset, .unset] [])) _
    refine XS.aloadN X1.here hx rfl (hb hby at_6) rfl rfl ?_
    show Steps p.tables e below (T1.setTop (mkF m 7 #[.val (.int p0), .val (.ref b1), .unset, .unset] [(.ref b1)])) _
    refine XS.iconst X1.here hx rfl (hb hby at_7) ?_
    show Steps p.tables e below (T1.setTop (mkF m 8 #[.val (.int p0), .val (.ref b1), .unset, .unset] [(.int (0 : Int32)), (.ref b1)])) _
    refine st2 _ ?_
    show Steps p.tables e below (T2.setTop (mkF m 11 #[.val (.int p0), .val (.ref b1), .unset, .unset] [(.ref a_DELIVER), (.int (0 : Int32)), (.ref b1)])) _
    refine st4 _ ?_
    show Steps p.tables e below (T4.setTop (mkF m 12 #[.val (.int p0), .val (.ref b1), .unset, .unset] [])) _
    refine XS.aloadN X4.here hx rfl (hb hby at_12) rfl rfl ?_
    show Steps p.tables e below (T4.setTop (mkF m 13 #[.val (.int p0), .val (.ref b1), .unset, .unset] [(.ref b1)])) _
    refine XS.iconst X4.here hx rfl (hb hby at_13) ?_
    show Steps p.tables e below (T4.setTop (mkF m 14 #[.val (.int p0), .val (.ref b1), .unset, .unset] [(.int (1 : Int32)), (.ref b1)])) _
    refine st5 _ ?_
    show Steps p.tables e below (T5.setTop (mkF m 17 #[.val (.int p0), .val (.ref b1), .unset, .unset] [(.ref a_REJECT), (.int (1 : Int32)), (.ref b1)])) _
    refine st7 _ ?_
    show Steps p.tables e below (T7.setTop (mkF m 18 #[.val (.int p0), .val (.ref b1), .unset, .unset] [])) _
    refine XS.aloadN X7.here hx rfl (hb hby at_18) rfl rfl ?_
    show Steps p.tables e below (T7.setTop (mkF m 19 #[.val (.int p0), .val (.ref b1), .unset, .unset] [(.ref b1)])) _
    refine XS.iconst X7.here hx rfl (hb hby at_19) ?_
    show Steps p.tables e below (T7.setTop (mkF m 20 #[.val (.int p0), .val (.ref b1), .unset, .unset] [(.int (2 : Int32)), (.ref b1)])) _
    refine st8 _ ?_
    show Steps p.tables e below (T8.setTop (mkF m 23 #[.val (.int p0), .val (.ref b1), .unset, .unset] [(.ref a_QUARANTINE), (.int (2 : Int32)), (.ref b1)])) _
    refine st10 _ ?_
    show Steps p.tables e below (T10.setTop (mkF m 24 #[.val (.int p0), .val (.ref b1), .unset, .unset] [])) _
    refine XS.aloadN X10.here hx rfl (hb hby at_24) rfl rfl ?_
    show Steps p.tables e below (T10.setTop (mkF m 25 #[.val (.int p0), .val (.ref b1), .unset, .unset] [(.ref b1)])) _
    refine XS.iconst X10.here hx rfl (hb hby at_25) ?_
    show Steps p.tables e below (T10.setTop (mkF m 26 #[.val (.int p0), .val (.ref b1), .unset, .unset] [(.int (3 : Int32)), (.ref b1)])) _
    refine st11 _ ?_
    show Steps p.tables e below (T11.setTop (mkF m 29 #[.val (.int p0), .val (.ref b1), .unset, .unset] [(.ref a_SMIME_SIGN), (.int (3 : Int32)), (.ref b1)])) _
    refine st13 _ ?_
    show Steps p.tables e below (T13.setTop (mkF m 30 #[.val (.int p0), .val (.ref b1), .unset, .unset] [])) _
    refine XS.aloadN X13.here hx rfl (hb hby at_30) rfl rfl ?_
    show Steps p.tables e below (T13.setTop (mkF m 31 #[.val (.int p0), .val (.ref b1), .unset, .unset] [(.ref b1)])) _
    refine XS.iconst X13.here hx rfl (hb hby at_31) ?_
    show Steps p.tables e below (T13.setTop (mkF m 32 #[.val (.int p0), .val (.ref b1), .unset, .unset] [(.int (4 : Int32)), (.ref b1)])) _
    refine st14 _ ?_
    show Steps p.tables e below (T14.setTop (mkF m 35 #[.val (.int p0), .val (.ref b1), .unset, .unset] [(.ref a_SMIME_ENCRYPT), (.int (4 : Int32)), (.ref b1)])) _
    refine st16 _ ?_
    show Steps p.tables e below (T16.setTop (mkF m 36 #[.val (.int p0), .val (.ref b1), .unset, .unset] [])) _
    refine XS.aloadN X16.here hx rfl (hb hby at_36) rfl rfl ?_
    show Steps p.tables e below (T16.setTop (mkF m 37 #[.val (.int p0), .val (.ref b1), .unset, .unset] [(.ref b1)])) _
    refine XS.iconst X16.here hx rfl (hb hby at_37) ?_
    show Steps p.tables e below (T16.setTop (mkF m 38 #[.val (.int p0), .val (.ref b1), .unset, .unset] [(.int (5 : Int32)), (.ref b1)])) _
    refine st17 _ ?_
    show Steps p.tables e below (T17.setTop (mkF m 41 #[.val (.int p0), .val (.ref b1), .unset, .unset] [(.ref a_SMIME_SIGN_ENCRYPT), (.int (5 : Int32)), (.ref b1)])) _
    refine st19 _ ?_
    show Steps p.tables e below (T19.setTop (mkF m 42 #[.val (.int p0), .val (.ref b1), .unset, .unset] [])) _
    refine XS.iloadN X19.here hx rfl (hb hby at_42) rfl ?_
    show Steps p.tables e below (T19.setTop (mkF m 43 #[.val (.int p0), .val (.ref b1), .unset, .unset] [(.int p0)])) _
    refine X19.ldcInt hx hown (mvT hZ (hw _ (List.mem_of_getElem? (i := 16) rfl))) (g := (mkF m 43 #[.val (.int p0), .val (.ref b1), .unset, .unset] [(.int p0)])) rfl (hb hby at_43) _ ?_
    show Steps p.tables e below (T19.setTop (mkF m 45 #[.val (.int p0), .val (.ref b1), .unset, .unset] [(.int (2147483647 : Int32)), (.int p0)])) _
    refine XS.iand X19.here hx rfl (hb hby at_45) rfl ?_
    show Steps p.tables e below (T19.setTop (mkF m 46 #[.val (.int p0), .val (.ref b1), .unset, .unset] [(.int (p0 &&& (2147483647 : Int32)))])) _
    refine XS.bipush X19.here hx rfl (hb hby at_46) ?_
    show Steps p.tables e below (T19.setTop (mkF m 48 #[.val (.int p0), .val (.ref b1), .unset, .unset] [(.int (6 : Int32)), (.int (p0 &&& (2147483647 : Int32)))])) _
    refine iremM X19 hx rfl (hb hby at_48) rfl (by decide) ?_
    show Steps p.tables e below (T19.setTop (mkF m 49 #[.val (.int p0), .val (.ref b1), .unset, .unset] [(.int ((p0 &&& (2147483647 : Int32)) % (6 : Int32)))])) _
    rw [hk0]
    show Steps p.tables e below (T19.setTop (mkF m 49 #[.val (.int p0), .val (.ref b1), .unset, .unset] [(.int (1 : Int32))])) _
    refine XS.istoreN X19.here hx rfl (hb hby at_49) rfl (l' := #[.val (.int p0), .val (.ref b1), .val (.int (1 : Int32)), .unset]) rfl ?_
    show Steps p.tables e below (T19.setTop (mkF m 50 #[.val (.int p0), .val (.ref b1), .val (.int (1 : Int32)), .unset] [])) _
    refine XS.iloadN X19.here hx rfl (hb hby at_50) rfl ?_
    show Steps p.tables e below (T19.setTop (mkF m 51 #[.val (.int p0), .val (.ref b1), .val (.int (1 : Int32)), .unset] [(.int (1 : Int32))])) _
    refine XS.iconst X19.here hx rfl (hb hby at_51) ?_
    show Steps p.tables e below (T19.setTop (mkF m 52 #[.val (.int p0), .val (.ref b1), .val (.int (1 : Int32)), .unset] [(.int (1 : Int32)), (.int (1 : Int32))])) _
    refine XS.icmpNo X19.here hx rfl (hb hby at_52) rfl (by decide) ?_
    show Steps p.tables e below (T19.setTop (mkF m 55 #[.val (.int p0), .val (.ref b1), .val (.int (1 : Int32)), .unset] [])) _
    refine XS.iconst X19.here hx rfl (hb hby at_55) ?_
    show Steps p.tables e below (T19.setTop (mkF m 56 #[.val (.int p0), .val (.ref b1), .val (.int (1 : Int32)), .unset] [(.int (0 : Int32))])) _
    refine XS.istoreN X19.here hx rfl (hb hby at_56) rfl (l' := #[.val (.int p0), .val (.ref b1), .val (.int (1 : Int32)), .val (.int (0 : Int32))]) rfl ?_
    show Steps p.tables e below (T19.setTop (mkF m 57 #[.val (.int p0), .val (.ref b1), .val (.int (1 : Int32)), .val (.int (0 : Int32))] [])) _
    refine XS.goto X19.here hx rfl (pc0 := 57) (pc' := 72) rfl (hb hby at_57) (by decide) (by decide) ?_
    show Steps p.tables e below (T19.setTop (mkF m 72 #[.val (.int p0), .val (.ref b1), .val (.int (1 : Int32)), .val (.int (0 : Int32))] [])) _
    refine XS.aloadN X19.here hx rfl (hb hby at_72) rfl rfl ?_
    show Steps p.tables e below (T19.setTop (mkF m 73 #[.val (.int p0), .val (.ref b1), .val (.int (1 : Int32)), .val (.int (0 : Int32))] [(.ref b1)])) _
    refine XS.iloadN X19.here hx rfl (hb hby at_73) rfl ?_
    show Steps p.tables e below (T19.setTop (mkF m 74 #[.val (.int p0), .val (.ref b1), .val (.int (1 : Int32)), .val (.int (0 : Int32))] [(.int (1 : Int32)), (.ref b1)])) _
    refine X19.aaload hx (j := (1 : Int32)) (v := (.ref a_REJECT)) (by rw [e19]; exact r20.1) (State.isArrayOf_alike hZ.alike r20.2.1) rfl r20.2.2 i20 y20 (g := (mkF m 74 #[.val (.int p0), .val (.ref b1), .val (.int (1 : Int32)), .val (.int (0 : Int32))] [(.int (1 : Int32)), (.ref b1)])) rfl rfl (hb hby at_74) _ ?_
    show Steps p.tables e below (T19.setTop (mkF m 75 #[.val (.int p0), .val (.ref b1), .val (.int (1 : Int32)), .val (.int (0 : Int32))] [(.ref a_REJECT)])) _
    refine st21.trans ?_
    show Steps p.tables e below (T21.setTop (mkF m 78 #[.val (.int p0), .val (.ref b1), .val (.int (1 : Int32)), .val (.int (0 : Int32))] [(.int (0 : Int32))])) _
    refine XS.iloadN X21.here hx rfl (hb hby at_78) rfl ?_
    show Steps p.tables e below (T21.setTop (mkF m 79 #[.val (.int p0), .val (.ref b1), .val (.int (1 : Int32)), .val (.int (0 : Int32))] [(.int (0 : Int32)), (.int (0 : Int32))])) _
    refine XS.icmpNo X21.here hx rfl (hb hby at_79) rfl (by decide) ?_
    show Steps p.tables e below (T21.setTop (mkF m 82 #[.val (.int p0), .val (.ref b1), .val (.int (1 : Int32)), .val (.int (0 : Int32))] [])) _
    refine XS.iconst X21.here hx rfl (hb hby at_82) ?_
    show Steps p.tables e below (T21.setTop (mkF m 83 #[.val (.int p0), .val (.ref b1), .val (.int (1 : Int32)), .val (.int (0 : Int32))] [(.int (1 : Int32))])) _
    refine XS.goto X21.here hx rfl (pc0 := 83) (pc' := 87) rfl (hb hby at_83) (by decide) (by decide) ?_
    show Steps p.tables e below (T21.setTop (mkF m 87 #[.val (.int p0), .val (.ref b1), .val (.int (1 : Int32)), .val (.int (0 : Int32))] [(.int (1 : Int32))])) _
    exact retN X21 hx (t := .boolean) Bd.returns (by simp) (hb hby at_87) hr
  · exact ⟨rfl, N21⟩
set_option maxRecDepth 65536 in
set_option maxHeartbeats 40000000 in
theorem rm1_2 (l : Launch) (Z : State) (a0 : Array Value) (hw : ∀ d ∈ tables_1, d.before a0 Z = true) (ws : List Jvm.Cond) (p0 : Int32) (a_DELIVER a_REJECT a_QUARANTINE a_SMIME_SIGN a_SMIME_ENCRYPT a_SMIME_SIGN_ENCRYPT : Addr) (h0 : Heap) (n0 : Nat) (Z0 : n0 ≤ h0.size) (FF : Facts Z h0 a_DELIVER a_REJECT a_QUARANTINE a_SMIME_SIGN a_SMIME_ENCRYPT a_SMIME_SIGN_ENCRYPT) :
    MetFree l (⟨"com/example/mail_policy_gateway/mailpolicygateway/model/Action", "delivers", "()Z"⟩ : MethodName) (head1 (Jvm.Cond.code (⟨"com/example/mail_policy_gateway/mailpolicygateway/model/Action", "delivers", "()Z"⟩ : MethodName) prog_34_method_6_code 1 (some .boolean) :: ws) ({ frames := 0, cells := 0, slots := 0, locals := 0 } : Room)) (fun a U => a = #[(.ref a_QUARANTINE)] ∧ Z.Warmed39 U.vm ∧ U.heap = h0) (fun _ _ _ _ _ => True) (fun _ U o U' => ∃ v L, o = .returned v ∧ own_Q (.int (0 : Int32)) h0 n0 v U'.heap L ∧ FrameEnd U o U' L ({ frames := 0, cells := 0, slots := 0, locals := 0 } : Room).cells ({ frames := 0, cells := 0, slots := 0, locals := 0 } : Room).slots) := by
  refine MetFree.of_bodySF (plainFor_of_name pn_1) hisR ?_
  intro p e s m args below meth c s₁ Bd hml0 hP hK
  obtain ⟨rfl, hZ, hh⟩ := hP
  have hx := Bd.exec
  have hby := Bd.bytes
  have hml : c.maxLocals = 1 := hml0
  have hown : s.vm.findClass "com/example/mail_policy_gateway/mailpolicygateway/model/Action" = some m.cls := findClass_of_methodNamed Bd.named
  have X0 : Stand p l e ({ frames := 0, cells := 0, slots := 0, locals := 0 } : Room) s m #[(.ref a_QUARANTINE)] below meth c s₁ [] 0 0 := Stand.of_body Bd
  have e0 : s₁.heap = h0 := by rw [← hh, Bd.state]; rfl
  have N0 := Fr.nil n0
  have pre0 : ∀ t, Steps p.tables e below (s₁.setTop (mkF m 0 #[.val (.ref a_QUARANTINE)] [])) t → Steps p.tables e below (s₁.setTop (entryFrame m #[(.ref a_QUARANTINE)] 1)) t := fun t k => castTop (ef_1 m a_QUARANTINE) k
  obtain ⟨T1, X1, e1, st1⟩ := getS2 X0 hx hZ hown (host := "") (Or.inl (hw _ (List.mem_of_getElem? (i := 22) rfl))) Via.refl e0 (fx_S_DELIVER FF) (g := (mkF m 1 #[.val (.ref a_QUARANTINE)] [(.ref a_QUARANTINE)])) rfl (hb hby d1_1)
  obtain ⟨T2, X2, e2, st2⟩ := getF X1 hx hZ hown (host := "") (Or.inl (hw _ (List.mem_of_getElem? (i := 23) rfl))) Via.refl e1 (fx_F_QUARANTINE_signs FF) (g := (mkF m 8 #[.val (.ref a_QUARANTINE)] [(.ref a_QUARANTINE)])) rfl rfl (hb hby d1_8)
  obtain ⟨T3, X3, e3, st3⟩ := getF X2 hx hZ hown (host := "") (Or.inl (hw _ (List.mem_of_getElem? (i := 25) rfl))) Via.refl e2 (fx_F_QUARANTINE_encrypts FF) (g := (mkF m 15 #[.val (.ref a_QUARANTINE)] [(.ref a_QUARANTINE)])) rfl rfl (hb hby d1_15)
  obtain ⟨fs, hr, hrun, hended, hW, hsame⟩ := X3.leave (v := some (.int (0 : Int32))) (fun h => by rw [Bd.returns] at h; cases h)
  refine ⟨_, _, pre0 _ ?_, hrun, hended, _, _, rfl, ?_, ⟨_, rfl⟩, hW, hsame.mono (by decide) (by decide)⟩
  · show Steps p.tables e below (s₁.setTop (mkF m 0 #[.val (.ref a_QUARANTINE)] [])) _
    refine XS.aloadN X0.here hx rfl (hb hby d1_0) rfl rfl ?_
    show Steps p.tables e below (s₁.setTop (mkF m 1 #[.val (.ref a_QUARANTINE)] [(.ref a_QUARANTINE)])) _
    refine st1 _ ?_
    show Steps p.tables e below (T1.setTop (mkF m 4 #[.val (.ref a_QUARANTINE)] [(.ref a_DELIVER), (.ref a_QUARANTINE)])) _
    refine Jvm.RoadKit.acmp (g := (mkF m 4 #[.val (.ref a_QUARANTINE)] [(.ref a_DELIVER), (.ref a_QUARANTINE)])) X1 hx rfl rfl rfl (pc0 := 4) (pc' := 7) (same := false) rfl (hb hby d1_4) rfl (decide_eq_false fun q => Fld.ne (fx_F_QUARANTINE_ordinal FF) (fx_F_DELIVER_ordinal FF) (by decide) (Value.ref.inj q)) (by decide) (by decide) ?_
    show Steps p.tables e below (T1.setTop (mkF m 7 #[.val (.ref a_QUARANTINE)] [])) _
    refine XS.aloadN X1.here hx rfl (hb hby d1_7) rfl rfl ?_
    show Steps p.tables e below (T1.setTop (mkF m 8 #[.val (.ref a_QUARANTINE)] [(.ref a_QUARANTINE)])) _
    refine st2 _ ?_
    show Steps p.tables e below (T2.setTop (mkF m 11 #[.val (.ref a_QUARANTINE)] [(.int (0 : Int32))])) _
    refine XS.ifNo X2.here hx rfl (hb hby d1_11) rfl (by decide) ?_
    show Steps p.tables e below (T2.setTop (mkF m 14 #[.val (.ref a_QUARANTINE)] [])) _
    refine XS.aloadN X2.here hx rfl (hb hby d1_14) rfl rfl ?_
    show Steps p.tables e below (T2.setTop (mkF m 15 #[.val (.ref a_QUARANTINE)] [(.ref a_QUARANTINE)])) _
    refine st3 _ ?_
    show Steps p.tables e below (T3.setTop (mkF m 18 #[.val (.ref a_QUARANTINE)] [(.int (0 : Int32))])) _
    refine XS.ifYes X3.here hx rfl (pc0 := 18) (pc' := 25) rfl (hb hby d1_18) rfl (by decide) (by decide) (by decide) ?_
    show Steps p.tables e below (T3.setTop (mkF m 25 #[.val (.ref a_QUARANTINE)] [])) _
    refine XS.iconst X3.here hx rfl (hb hby d1_25) ?_
    show Steps p.tables e below (T3.setTop (mkF m 26 #[.val (.ref a_QUARANTINE)] [(.int (0 : Int32))])) _
    exact retN X3 hx (t := .boolean) Bd.returns (by simp) (hb hby d1_26) hr
  · show own_Q _ _ _ _ T3.heap _
    exact ⟨rfl, N0, e3⟩
set_option maxRecDepth 65536 in
set_option maxHeartbeats 40000000 in
theorem rm0_2 (l : Launch) (Z : State) (a0 : Array Value) (hw : ∀ d ∈ tables_1, d.before a0 Z = true) (ws : List Jvm.Cond) (p0 : Int32) (a_DELIVER a_REJECT a_QUARANTINE a_SMIME_SIGN a_SMIME_ENCRYPT a_SMIME_SIGN_ENCRYPT : Addr) (h0 : Heap) (n0 : Nat) (Z0 : n0 ≤ h0.size) (FF : Facts Z h0 a_DELIVER a_REJECT a_QUARANTINE a_SMIME_SIGN a_SMIME_ENCRYPT a_SMIME_SIGN_ENCRYPT) (hk0 : ((p0 &&& (2147483647 : Int32)) % (6 : Int32)) = (2 : Int32)) :
    MetFree l x (head1 (Jvm.Cond.code x code maxLocals ret :: ws) room_1) (fun a U => a = #[(.int p0)] ∧ Z.Warmed39 U.vm ∧ U.heap = h0) (fun _ _ _ _ _ => True) (fun _ U o U' => ∃ v L, o = .returned v ∧ (v = some (.int (1 : Int32)) ∧ Fr n0 L) ∧ FrameEnd U o U' L room_1.cells room_1.slots) := by
  refine MetFree.of_bodySF (plainFor_of_name pn_0) hisR ?_
  intro p e s m args below meth c s₁ Bd hml0 hP hK
  obtain ⟨rfl, hZ, hh⟩ := hP
  have hx := Bd.exec
  have hby := Bd.bytes
  have hml : c.maxLocals = 4 := hml0
  have hown : s.vm.findClass "com/example/mail_policy_gateway/mailpolicygateway/model/ActionDeliversPinLaw" = some m.cls := findClass_of_methodNamed Bd.named
  have X0 : Stand p l e room_1 s m #[(.int p0)] below meth c s₁ [] 0 0 := Stand.of_body Bd
  have e0 : s₁.heap = h0 := by rw [← hh, Bd.state]; rfl
  have N0 := Fr.nil n0
  have pre0 : ∀ t, Steps p.tables e below (s₁.setTop (mkF m 0 #[.val (.int p0), .unset, .unset, .unset] [])) t → Steps p.tables e below (s₁.setTop (entryFrame m #[(.int p0)] maxLocals)) t := fun t k => castTop (ef_0 m p0) k
  obtain ⟨T1, h1, k1, X1, e1, E1, A1, O1, st1⟩ := newR X0 hx hZ hown (hw _ (List.mem_of_getElem? (i := 0) rfl)) (hw _ (List.mem_of_getElem? (i := 1) rfl)) e0 (g := (mkF m 2 #[.val (.int p0), .unset, .unset, .unset] [(.int (6 : Int32))])) rfl (hb hby at_2) rfl (by decide) (cap := 6) (by decide) (by decide) (by decide) (by decide)
  obtain ⟨b1, g1⟩ : ∃ z, z = h0.size := ⟨_, rfl⟩
  rw [← g1] at A1 st1
  have V1 : Arv Z h1 b1 k1 (.object "com/example/mail_policy_gateway/mailpolicygateway/model/Action") (6 : Int32) [.null, .null, .null, .null, .null, .null] .null := (Arv.new A1 (by decide)).pad (pad_rep [] .null 6)
  have s_b1 : h0.size ≤ b1 := Nat.le_trans (Nat.le_refl _) (Nat.le_of_eq g1.symm)
  have z1 : h0.size ≤ h1.size := Nat.le_trans (Nat.le_refl _) E1.1
  have FF1 := Facts.ext FF E1
  obtain ⟨T2, X2, e2, st2⟩ := getS2 X1 hx hZ hown (host := "") (Or.inl (hw _ (List.mem_of_getElem? (i := 2) rfl))) Via.refl e1 (fx_S_DELIVER FF1) (g := (mkF m 8 #[.val (.int p0), .val (.ref b1), .unset, .unset] [(.int (0 : Int32)), (.ref b1)])) rfl (hb hby at_8)
  obtain ⟨c3, r3, q3, S3, M3, H3, G3⟩ := V1
  have i3 : ¬ ((0 : Int32) < 0 ∨ c3.slots.size ≤ ((0 : Int32)).toNatClampNeg) := inb_of S3 ⟨by decide, by decide⟩
  obtain ⟨T4, h4, X4, e4, W4, st4⟩ := stR X2 hx hZ e2 r3 (j := (0 : Int32)) i3 rfl (Sto.ofV r3 q3 O1 (Ins.self (fx_E_DELIVER FF1))) (g := (mkF m 11 #[.val (.int p0), .val (.ref b1), .unset, .unset] [(.ref a_DELIVER), (.int (0 : Int32)), (.ref b1)])) rfl rfl (hb hby at_11)
  have V4 : Arv Z h4 b1 k1 (.object "com/example/mail_policy_gateway/mailpolicygateway/model/Action") (6 : Int32) [(.ref a_DELIVER), .null, .null, .null, .null, .null] .null := Arv.set r3 q3 S3 M3 H3 G3 rfl W4 0 rfl (Nat.le_of_ble_eq_true rfl)
  have z4 : h0.size ≤ h4.size := Nat.le_trans z1 (Nat.le_of_eq W4.size.symm)
  have FF4 := Facts.wr FF FF1 W4 s_b1
  have N4 := Fr.snoc X4 N0 (Nat.le_trans Z0 s_b1)
  obtain ⟨T5, X5, e5, st5⟩ := getS2 X4 hx hZ hown (host := "") (Or.inl (hw _ (List.mem_of_getElem? (i := 6) rfl))) Via.refl e4 (fx_S_REJECT FF4) (g := (mkF m 14 #[.val (.int p0), .val (.ref b1), .unset, .unset] [(.int (1 : Int32)), (.ref b1)])) rfl (hb hby at_14)
  obtain ⟨c6, r6, q6, S6, M6, H6, G6⟩ := V4
  have i6 : ¬ ((1 : Int32) < 0 ∨ c6.slots.size ≤ ((1 : Int32)).toNatClampNeg) := inb_of S6 ⟨by decide, by decide⟩
  obtain ⟨T7, h7, X7, e7, W7, st7⟩ := stR X5 hx hZ e5 r6 (j := (1 : Int32)) i6 rfl (Sto.ofV r6 q6 O1 (Ins.self (fx_E_REJECT FF4))) (g := (mkF m 17 #[.val (.int p0), .val (.ref b1), .unset, .unset] [(.ref a_REJECT), (.int (1 : Int32)), (.ref b1)])) rfl rfl (hb hby at_17)
  have V7 : Arv Z h7 b1 k1 (.object "com/example/mail_policy_gateway/mailpolicygateway/model/Action") (6 : Int32) [(.ref a_DELIVER), (.ref a_REJECT), .null, .null, .null, .null] .null := Arv.set r6 q6 S6 M6 H6 G6 rfl W7 1 rfl (Nat.le_of_ble_eq_true rfl)
  have z7 : h0.size ≤ h7.size := Nat.le_trans z4 (Nat.le_of_eq W7.size.symm)
  have FF7 := Facts.wr FF FF4 W7 s_b1
  have N7 := Fr.snoc X7 N4 (Nat.le_trans Z0 s_b1)
  obtain ⟨T8, X8, e8, st8⟩ := getS2 X7 hx hZ hown (host := "") (Or.inl (hw _ (List.mem_of_getElem? (i := 8) rfl))) Via.refl e7 (fx_S_QUARANTINE FF7) (g := (mkF m 20 #[.val (.int p0), .val (.ref b1), .unset, .unset] [(.int (2 : Int32)), (.ref b1)])) rfl (hb hby at_20)
  obtain ⟨c9, r9, q9, S9, M9, H9, G9⟩ := V7
  have i9 : ¬ ((2 : Int32) < 0 ∨ c9.slots.size ≤ ((2 : Int32)).toNatClampNeg) := inb_of S9 ⟨by decide, by decide⟩
  obtain ⟨T10, h10, X10, e10, W10, st10⟩ := stR X8 hx hZ e8 r9 (j := (2 : Int32)) i9 rfl (Sto.ofV r9 q9 O1 (Ins.self (fx_E_QUARANTINE FF7))) (g := (mkF m 23 #[.val (.int p0), .val (.ref b1), .unset, .unset] [(.ref a_QUARANTINE), (.int (2 : Int32)), (.ref b1)])) rfl rfl (hb hby at_23)
  have V10 : Arv Z h10 b1 k1 (.object "com/example/mail_policy_gateway/mailpolicygateway/model/Action") (6 : Int32) [(.ref a_DELIVER), (.ref a_REJECT), (.ref a_QUARANTINE), .null, .null, .null] .null := Arv.set r9 q9 S9 M9 H9 G9 rfl W10 2 rfl (Nat.le_of_ble_eq_true rfl)
  have z10 : h0.size ≤ h10.size := Nat.le_trans z7 (Nat.le_of_eq W10.size.symm)
  have FF10 := Facts.wr FF FF7 W10 s_b1
  have N10 := Fr.snoc X10 N7 (Nat.le_trans Z0 s_b1)
  obtain ⟨T11, X11, e11, st11⟩ := getS2 X10 hx hZ hown (host := "") (Or.inl (hw _ (List.mem_of_getElem? (i := 10) rfl))) Via.refl e10 (fx_S_SMIME_SIGN FF10) (g := (mkF m 26 #[.val (.int p0), .val (.ref b1), .unset, .unset] [(.int (3 : Int32)), (.ref b1)])) rfl (hb hby at_26)
  obtain ⟨c12, r12, q12, S12, M12, H12, G12⟩ := V10
  have i12 : ¬ ((3 : Int32) < 0 ∨ c12.slots.size ≤ ((3 : Int32)).toNatClampNeg) := inb_of S12 ⟨by decide, by decide⟩
  obtain ⟨T13, h13, X13, e13, W13, st13⟩ := stR X11 hx hZ e11 r12 (j := (3 : Int32)) i12 rfl (Sto.ofV r12 q12 O1 (Ins.self (fx_E_SMIME_SIGN FF10))) (g := (mkF m 29 #[.val (.int p0), .val (.ref b1), .unset, .unset] [(.ref a_SMIME_SIGN), (.int (3 : Int32)), (.ref b1)])) rfl rfl (hb hby at_29)
  have V13 : Arv Z h13 b1 k1 (.object "com/example/mail_policy_gateway/mailpolicygateway/model/Action") (6 : Int32) [(.ref a_DELIVER), (.ref a_REJECT), (.ref a_QUARANTINE), (.ref a_SMIME_SIGN), .null, .null] .null := Arv.set r12 q12 S12 M12 H12 G12 rfl W13 3 rfl (Nat.le_of_ble_eq_true rfl)
  have z13 : h0.size ≤ h13.size := Nat.le_trans z10 (Nat.le_of_eq W13.size.symm)
  have FF13 := Facts.wr FF FF10 W13 s_b1
  have N13 := Fr.snoc X13 N10 (Nat.le_trans Z0 s_b1)
  obtain ⟨T14, X14, e14, st14⟩ := getS2 X13 hx hZ hown (host := "") (Or.inl (hw _ (List.mem_of_getElem? (i := 12) rfl))) Via.refl e13 (fx_S_SMIME_ENCRYPT FF13) (g := (mkF m 32 #[.val (.int p0), .val (.ref b1), .unset, .unset] [(.int (4 : Int32)), (.ref b1)])) rfl (hb hby at_32)
  obtain ⟨c15, r15, q15, S15, M15, H15, G15⟩ := V13
  have i15 : ¬ ((4 : Int32) < 0 ∨ c15.slots.size ≤ ((4 : Int32)).toNatClampNeg) := inb_of S15 ⟨by decide, by decide⟩
  obtain ⟨T16, h16, X16, e16, W16, st16⟩ := stR X14 hx hZ e14 r15 (j := (4 : Int32)) i15 rfl (Sto.ofV r15 q15 O1 (Ins.self (fx_E_SMIME_ENCRYPT FF13))) (g := (mkF m 35 #[.val (.int p0), .val (.ref b1), .unset, .unset] [(.ref a_SMIME_ENCRYPT), (.int (4 : Int32)), (.ref b1)])) rfl rfl (hb hby at_35)
  have V16 : Arv Z h16 b1 k1 (.object "com/example/mail_policy_gateway/mailpolicygateway/model/Action") (6 : Int32) [(.ref a_DELIVER), (.ref a_REJECT), (.ref a_QUARANTINE), (.ref a_SMIME_SIGN), (.ref a_SMIME_ENCRYPT), .null] .null := Arv.set r15 q15 S15 M15 H15 G15 rfl W16 4 rfl (Nat.le_of_ble_eq_true rfl)
  have z16 : h0.size ≤ h16.size := Nat.le_trans z13 (Nat.le_of_eq W16.size.symm)
  have FF16 := Facts.wr FF FF13 W16 s_b1
  have N16 := Fr.snoc X16 N13 (Nat.le_trans Z0 s_b1)
  obtain ⟨T17, X17, e17, st17⟩ := getS2 X16 hx hZ hown (host := "") (Or.inl (hw _ (List.mem_of_getElem? (i := 14) rfl))) Via.refl e16 (fx_S_SMIME_SIGN_ENCRYPT FF16) (g := (mkF m 38 #[.val (.int p0), .val (.ref b1), .unset, .unset] [(.int (5 : Int32)), (.ref b1)])) rfl (hb hby at_38)
  obtain ⟨c18, r18, q18, S18, M18, H18, G18⟩ := V16
  have i18 : ¬ ((5 : Int32) < 0 ∨ c18.slots.size ≤ ((5 : Int32)).toNatClampNeg) := inb_of S18 ⟨by decide, by decide⟩
  obtain ⟨T19, h19, X19, e19, W19, st19⟩ := stR X17 hx hZ e17 r18 (j := (5 : Int32)) i18 rfl (Sto.ofV r18 q18 O1 (Ins.self (fx_E_SMIME_SIGN_ENCRYPT FF16))) (g := (mkF m 41 #[.val (.int p0), .val (.ref b1), .unset, .unset] [(.ref a_SMIME_SIGN_ENCRYPT), (.int (5 : Int32)), (.ref b1)])) rfl rfl (hb hby at_41)
  have V19 : Arv Z h19 b1 k1 (.object "com/example/mail_policy_gateway/mailpolicygateway/model/Action") (6 : Int32) [(.ref a_DELIVER), (.ref a_REJECT), (.ref a_QUARANTINE), (.ref a_SMIME_SIGN), (.ref a_SMIME_ENCRYPT), (.ref a_SMIME_SIGN_ENCRYPT)] .null := Arv.set r18 q18 S18 M18 H18 G18 rfl W19 5 rfl (Nat.le_of_ble_eq_true rfl)
  have z19 : h0.size ≤ h19.size := Nat.le_trans z16 (Nat.le_of_eq W19.size.symm)
  have FF19 := Facts.wr FF FF16 W19 s_b1
  have N19 := Fr.snoc X19 N16 (Nat.le_trans Z0 s_b1)
  obtain ⟨c20, r20, -, S20, -, H20, -⟩ := V19
  have i20 : ¬ ((2 : Int32) < 0 ∨ c20.slots.size ≤ ((2 : Int32)).toNatClampNeg) := inb_of S20 ⟨by decide, by decide⟩
  have y20 : c20.slots[((2 : Int32)).toNatClampNeg]? = some (.ref a_QUARANTINE) := H20 2 (by rw [S20]; decide)
  obtain ⟨cq21, kq21, q21a, q21b, q21c⟩ := isOf hZ e19 (fx_E_QUARANTINE FF19)
  obtain ⟨_, _, ⟨T21, L21, k21, n21⟩, -, X21, ⟨Lc21, hQ21, l21, y21, z21⟩, st21⟩ := X19.virtualBack hx (y := (⟨"com/example/mail_policy_gateway/mailpolicygateway/model/Action", "delivers", "()Z"⟩ : MethodName)) (z := (⟨"com/example/mail_policy_gateway/mailpolicygateway/model/Action", "delivers", "()Z"⟩ : MethodName)) hown (mvT hZ (hw _ (List.mem_of_getElem? (i := 17) rfl))) (mvT hZ (hw _ (List.mem_of_getElem? (i := 18) rfl))) (notFace_of_selects (args := #[]) (mvT hZ (hw _ (List.mem_of_getElem? (i := 20) rfl)))) (mvT hZ (hw _ (List.mem_of_getElem? (i := 20) rfl))) (mvT hZ (hw _ (List.mem_of_getElem? (i := 19) rfl))) (by decide) (backOf (W := 0) (rm1_2 l Z a0 hw [] p0 a_DELIVER a_REJECT a_QUARANTINE a_SMIME_SIGN a_SMIME_ENCRYPT a_SMIME_SIGN_ENCRYPT h19 n0 (Nat.le_trans Z0 z19) FF19) hZ (hw _ (List.mem_of_getElem? (i := 21) rfl)) (hw _ (List.mem_of_getElem? (i := 3) rfl)) (by decide) (by decide)) q21a q21c (g := (mkF m 75 #[.val (.int p0), .val (.ref b1), .val (.int (2 : Int32)), .val (.int (0 : Int32))] [(.ref a_QUARANTINE)])) rfl (by rw [hml]; rfl) (Steps.refl _) (argsL := []) (rest := []) (lenOf pd_0 rfl) rfl (by show 2 * 0 + _ ≤ _; exact Nat.le_of_eq rfl) (hb hby at_75) (fun _ _ => ⟨rfl, e19, (by decide : 1 + 0 ≤ _), (by decide : 6 + 0 ≤ _)⟩)
  dsimp only [Pt.U, Pt.locs, Pt.cells, Pt.slots] at X21 l21 y21 z21 st21 hQ21
  subst l21 y21 z21
  obtain ⟨rfl, N21q, e21⟩ := hQ21
  have N21 := Fr.app N19 N21q
  obtain ⟨fs, hr, hrun, hended, hW, hsame⟩ := X21.leave (v := some (.int (1 : Int32))) (fun h => by rw [Bd.returns] at h; cases h)
  refine ⟨_, _, pre0 _ ?_, hrun, hended, _, _, rfl, ?_, ⟨_, rfl⟩, hW, hsame.mono (by decide) (by decide)⟩
  · show Steps p.tables e below (s₁.setTop (mkF m 0 #[.val (.int p0), .unset, .unset, .unset] [])) _
    refine XS.bipush X0.here hx rfl (hb hby at_0) ?_
    show Steps p.tables e below (s₁.setTop (mkF m 2 #[.val (.int p0), .unset, .unset, .unset] [(.int (6 : Int32))])) _
    refine st1 _ ?_
    show Steps p.tables e below (T1.setTop (mkF m 5 #[.val (.int p0), .unset, .unset, .unset] [(.ref b1)])) _
    refine XS.astoreN X1.here hx rfl (hb hby at_5) rfl rfl (l' := #[.val (.int p0), .val (.ref b1), .unset, .unset]) rfl ?_
    show Steps p.tables e below (T1.setTop (mkF m 6 #[.val (.int p0), .val (.ref b1), .unset, .unset] [])) _
    refine XS.aloadN X1.here hx rfl (hb hby at_6) rfl rfl ?_
    show Steps p.tables e below (T1.setTop (mkF m 7 #[.val (.int p0), .val (.ref b1), .unset, .unset] [(.ref b1)])) _
    refine XS.iconst X1.here hx rfl (hb hby at_7) ?_
    show Steps p.tables e below (T1.setTop (mkF m 8 #[.val (.int p0), .val (.ref b1), .unset, .unset] [(.int (0 : Int32)), (.ref b1)])) _
    refine st2 _ ?_
    show Steps p.tables e below (T2.setTop (mkF m 11 #[.val (.int p0), .val (.ref b1), .unset, .unset] [(.ref a_DELIVER), (.int (0 : Int32)), (.ref b1)])) _
    refine st4 _ ?_
    show Steps p.tables e below (T4.setTop (mkF m 12 #[.val (.int p0), .val (.ref b1), .unset, .unset] [])) _
    refine XS.aloadN X4.here hx rfl (hb hby at_12) rfl rfl ?_
    show Steps p.tables e below (T4.setTop (mkF m 13 #[.val (.int p0), .val (.ref b1), .unset, .unset] [(.ref b1)])) _
    refine XS.iconst X4.here hx rfl (hb hby at_13) ?_
    show Steps p.tables e below (T4.setTop (mkF m 14 #[.val (.int p0), .val (.ref b1), .unset, .unset] [(.int (1 : Int32)), (.ref b1)])) _
    refine st5 _ ?_
    show Steps p.tables e below (T5.setTop (mkF m 17 #[.val (.int p0), .val (.ref b1), .unset, .unset] [(.ref a_REJECT), (.int (1 : Int32)), (.ref b1)])) _
    refine st7 _ ?_
    show Steps p.tables e below (T7.setTop (mkF m 18 #[.val (.int p0), .val (.ref b1), .unset, .unset] [])) _
    refine XS.aloadN X7.here hx rfl (hb hby at_18) rfl rfl ?_
    show Steps p.tables e below (T7.setTop (mkF m 19 #[.val (.int p0), .val (.ref b1), .unset, .unset] [(.ref b1)])) _
    refine XS.iconst X7.here hx rfl (hb hby at_19) ?_
    show Steps p.tables e below (T7.setTop (mkF m 20 #[.val (.int p0), .val (.ref b1), .unset, .unset] [(.int (2 : Int32)), (.ref b1)])) _
    refine st8 _ ?_
    show Steps p.tables e below (T8.setTop (mkF m 23 #[.val (.int p0), .val (.ref b1), .unset, .unset] [(.ref a_QUARANTINE), (.int (2 : Int32)), (.ref b1)])) _
    refine st10 _ ?_
    show Steps p.tables e below (T10.setTop (mkF m 24 #[.val (.int p0), .val (.ref b1), .unset, .unset] [])) _
    refine XS.aloadN X10.here hx rfl (hb hby at_24) rfl rfl ?_
    show Steps p.tables e below (T10.setTop (mkF m 25 #[.val (.int p0), .val (.ref b1), .unset, .unset] [(.ref b1)])) _
    refine XS.iconst X10.here hx rfl (hb hby at_25) ?_
    show Steps p.tables e below (T10.setTop (mkF m 26 #[.val (.int p0), .val (.ref b1), .unset, .unset] [(.int (3 : Int32)), (.ref b1)])) _
    refine st11 _ ?_
    show Steps p.tables e below (T11.setTop (mkF m 29 #[.val (.int p0), .val (.ref b1), .unset, .unset] [(.ref a_SMIME_SIGN), (.int (3 : Int32)), (.ref b1)])) _
    refine st13 _ ?_
    show Steps p.tables e below (T13.setTop (mkF m 30 #[.val (.int p0), .val (.ref b1), .unset, .unset] [])) _
    refine XS.aloadN X13.here hx rfl (hb hby at_30) rfl rfl ?_
    show Steps p.tables e below (T13.setTop (mkF m 31 #[.val (.int p0), .val (.ref b1), .unset, .unset] [(.ref b1)])) _
    refine XS.iconst X13.here hx rfl (hb hby at_31) ?_
    show Steps p.tables e below (T13.setTop (mkF m 32 #[.val (.int p0), .val (.ref b1), .unset, .unset] [(.int (4 : Int32)), (.ref b1)])) _
    refine st14 _ ?_
    show Steps p.tables e below (T14.setTop (mkF m 35 #[.val (.int p0), .val (.ref b1), .unset, .unset] [(.ref a_SMIME_ENCRYPT), (.int (4 : Int32)), (.ref b1)])) _
    refine st16 _ ?_
    show Steps p.tables e below (T16.setTop (mkF m 36 #[.val (.int p0), .val (.ref b1), .unset, .unset] [])) _
    refine XS.aloadN X16.here hx rfl (hb hby at_36) rfl rfl ?_
    show Steps p.tables e below (T16.setTop (mkF m 37 #[.val (.int p0), .val (.ref b1), .unset, .unset] [(.ref b1)])) _
    refine XS.iconst X16.here hx rfl (hb hby at_37) ?_
    show Steps p.tables e below (T16.setTop (mkF m 38 #[.val (.int p0), .val (.ref b1), .unset, .unset] [(.int (5 : Int32)), (.ref b1)])) _
    refine st17 _ ?_
    show Steps p.tables e below (T17.setTop (mkF m 41 #[.val (.int p0), .val (.ref b1), .unset, .unset] [(.ref a_SMIME_SIGN_ENCRYPT), (.int (5 : Int32)), (.ref b1)])) _
    refine st19 _ ?_
    show Steps p.tables e below (T19.setTop (mkF m 42 #[.val (.int p0), .val (.ref b1), .unset, .unset] [])) _
    refine XS.iloadN X19.here hx rfl (hb hby at_42) rfl ?_
    show Steps p.tables e below (T19.setTop (mkF m 43 #[.val (.int p0), .val (.ref b1), .unset, .unset] [(.int p0)])) _
    refine X19.ldcInt hx hown (mvT hZ (hw _ (List.mem_of_getElem? (i := 16) rfl))) (g := (mkF m 43 #[.val (.int p0), .val (.ref b1), .unset, .unset] [(.int p0)])) rfl (hb hby at_43) _ ?_
    show Steps p.tables e below (T19.setTop (mkF m 45 #[.val (.int p0), .val (.ref b1), .unset, .unset] [(.int (2147483647 : Int32)), (.int p0)])) _
    refine XS.iand X19.here hx rfl (hb hby at_45) rfl ?_
    show Steps p.tables e below (T19.setTop (mkF m 46 #[.val (.int p0), .val (.ref b1), .unset, .unset] [(.int (p0 &&& (2147483647 : Int32)))])) _
    refine XS.bipush X19.here hx rfl (hb hby at_46) ?_
    show Steps p.tables e below (T19.setTop (mkF m 48 #[.val (.int p0), .val (.ref b1), .unset, .unset] [(.int (6 : Int32)), (.int (p0 &&& (2147483647 : Int32)))])) _
    refine iremM X19 hx rfl (hb hby at_48) rfl (by decide) ?_
    show Steps p.tables e below (T19.setTop (mkF m 49 #[.val (.int p0), .val (.ref b1), .unset, .unset] [(.int ((p0 &&& (2147483647 : Int32)) % (6 : Int32)))])) _
    rw [hk0]
    show Steps p.tables e below (T19.setTop (mkF m 49 #[.val (.int p0), .val (.ref b1), .unset, .unset] [(.int (2 : Int32))])) _
    refine XS.istoreN X19.here hx rfl (hb hby at_49) rfl (l' := #[.val (.int p0), .val (.ref b1), .val (.int (2 : Int32)), .unset]) rfl ?_
    show Steps p.tables e below (T19.setTop (mkF m 50 #[.val (.int p0), .val (.ref b1), .val (.int (2 : Int32)), .unset] [])) _
    refine XS.iloadN X19.here hx rfl (hb hby at_50) rfl ?_
    show Steps p.tables e below (T19.setTop (mkF m 51 #[.val (.int p0), .val (.ref b1), .val (.int (2 : Int32)), .unset] [(.int (2 : Int32))])) _
    refine XS.iconst X19.here hx rfl (hb hby at_51) ?_
    show Steps p.tables e below (T19.setTop (mkF m 52 #[.val (.int p0), .val (.ref b1), .val (.int (2 : Int32)), .unset] [(.int (1 : Int32)), (.int (2 : Int32))])) _
    refine XS.icmpYes X19.here hx rfl (pc0 := 52) (pc' := 60) rfl (hb hby at_52) rfl (by decide) (by decide) (by decide) ?_
    show Steps p.tables e below (T19.setTop (mkF m 60 #[.val (.int p0), .val (.ref b1), .val (.int (2 : Int32)), .unset] [])) _
    refine XS.iloadN X19.here hx rfl (hb hby at_60) rfl ?_
    show Steps p.tables e below (T19.setTop (mkF m 61 #[.val (.int p0), .val (.ref b1), .val (.int (2 : Int32)), .unset] [(.int (2 : Int32))])) _
    refine XS.iconst X19.here hx rfl (hb hby at_61) ?_
    show Steps p.tables e below (T19.setTop (mkF m 62 #[.val (.int p0), .val (.ref b1), .val (.int (2 : Int32)), .unset] [(.int (2 : Int32)), (.int (2 : Int32))])) _
    refine XS.icmpNo X19.here hx rfl (hb hby at_62) rfl (by decide) ?_
    show Steps p.tables e below (T19.setTop (mkF m 65 #[.val (.int p0), .val (.ref b1), .val (.int (2 : Int32)), .unset] [])) _
    refine XS.iconst X19.here hx rfl (hb hby at_65) ?_
    show Steps p.tables e below (T19.setTop (mkF m 66 #[.val (.int p0), .val (.ref b1), .val (.int (2 : Int32)), .unset] [(.int (0 : Int32))])) _
    refine XS.istoreN X19.here hx rfl (hb hby at_66) rfl (l' := #[.val (.int p0), .val (.ref b1), .val (.int (2 : Int32)), .val (.int (0 : Int32))]) rfl ?_
    show Steps p.tables e below (T19.setTop (mkF m 67 #[.val (.int p0), .val (.ref b1), .val (.int (2 : Int32)), .val (.int (0 : Int32))] [])) _
    refine XS.goto X19.here hx rfl (pc0 := 67) (pc' := 72) rfl (hb hby at_67) (by decide) (by decide) ?_
    show Steps p.tables e below (T19.setTop (mkF m 72 #[.val (.int p0), .val (.ref b1), .val (.int (2 : Int32)), .val (.int (0 : Int32))] [])) _
    refine XS.aloadN X19.here hx rfl (hb hby at_72) rfl rfl ?_
    show Steps p.tables e below (T19.setTop (mkF m 73 #[.val (.int p0), .val (.ref b1), .val (.int (2 : Int32)), .val (.int (0 : Int32))] [(.ref b1)])) _
    refine XS.iloadN X19.here hx rfl (hb hby at_73) rfl ?_
    show Steps p.tables e below (T19.setTop (mkF m 74 #[.val (.int p0), .val (.ref b1), .val (.int (2 : Int32)), .val (.int (0 : Int32))] [(.int (2 : Int32)), (.ref b1)])) _
    refine X19.aaload hx (j := (2 : Int32)) (v := (.ref a_QUARANTINE)) (by rw [e19]; exact r20.1) (State.isArrayOf_alike hZ.alike r20.2.1) rfl r20.2.2 i20 y20 (g := (mkF m 74 #[.val (.int p0), .val (.ref b1), .val (.int (2 : Int32)), .val (.int (0 : Int32))] [(.int (2 : Int32)), (.ref b1)])) rfl rfl (hb hby at_74) _ ?_
    show Steps p.tables e below (T19.setTop (mkF m 75 #[.val (.int p0), .val (.ref b1), .val (.int (2 : Int32)), .val (.int (0 : Int32))] [(.ref a_QUARANTINE)])) _
    refine st21.trans ?_
    show Steps p.tables e below (T21.setTop (mkF m 78 #[.val (.int p0), .val (.ref b1), .val (.int (2 : Int32)), .val (.int (0 : Int32))] [(.int (0 : Int32))])) _
    refine XS.iloadN X21.here hx rfl (hb hby at_78) rfl ?_
    show Steps p.tables e below (T21.setTop (mkF m 79 #[.val (.int p0), .val (.ref b1), .val (.int (2 : Int32)), .val (.int (0 : Int32))] [(.int (0 : Int32)), (.int (0 : Int32))])) _
    refine XS.icmpNo X21.here hx rfl (hb hby at_79) rfl (by decide) ?_
    show Steps p.tables e below (T21.setTop (mkF m 82 #[.val (.int p0), .val (.ref b1), .val (.int (2 : Int32)), .val (.int (0 : Int32))] [])) _
    refine XS.iconst X21.here hx rfl (hb hby at_82) ?_
    show Steps p.tables e below (T21.setTop (mkF m 83 #[.val (.int p0), .val (.ref b1), .val (.int (2 : Int32)), .val (.int (0 : Int32))] [(.int (1 : Int32))])) _
    refine XS.goto X21.here hx rfl (pc0 := 83) (pc' := 87) rfl (hb hby at_83) (by decide) (by decide) ?_
    show Steps p.tables e below (T21.setTop (mkF m 87 #[.val (.int p0), .val (.ref b1), .val (.int (2 : Int32)), .val (.int (0 : Int32))] [(.int (1 : Int32))])) _
    exact retN X21 hx (t := .boolean) Bd.returns (by simp) (hb hby at_87) hr
  · exact ⟨rfl, N21⟩
set_option maxRecDepth 65536 in
set_option maxHeartbeats 40000000 in
theorem rm1_3 (l : Launch) (Z : State) (a0 : Array Value) (hw : ∀ d ∈ tables_1, d.before a0 Z = true) (ws : List Jvm.Cond) (p0 : Int32) (a_DELIVER a_REJECT a_QUARANTINE a_SMIME_SIGN a_SMIME_ENCRYPT a_SMIME_SIGN_ENCRYPT : Addr) (h0 : Heap) (n0 : Nat) (Z0 : n0 ≤ h0.size) (FF : Facts Z h0 a_DELIVER a_REJECT a_QUARANTINE a_SMIME_SIGN a_SMIME_ENCRYPT a_SMIME_SIGN_ENCRYPT) :
    MetFree l (⟨"com/example/mail_policy_gateway/mailpolicygateway/model/Action", "delivers", "()Z"⟩ : MethodName) (head1 (Jvm.Cond.code (⟨"com/example/mail_policy_gateway/mailpolicygateway/model/Action", "delivers", "()Z"⟩ : MethodName) prog_34_method_6_code 1 (some .boolean) :: ws) ({ frames := 0, cells := 0, slots := 0, locals := 0 } : Room)) (fun a U => a = #[(.ref a_SMIME_SIGN)] ∧ Z.Warmed39 U.vm ∧ U.heap = h0) (fun _ _ _ _ _ => True) (fun _ U o U' => ∃ v L, o = .returned v ∧ own_Q (.int (1 : Int32)) h0 n0 v U'.heap L ∧ FrameEnd U o U' L ({ frames := 0, cells := 0, slots := 0, locals := 0 } : Room).cells ({ frames := 0, cells := 0, slots := 0, locals := 0 } : Room).slots) := by
  refine MetFree.of_bodySF (plainFor_of_name pn_1) hisR ?_
  intro p e s m args below meth c s₁ Bd hml0 hP hK
  obtain ⟨rfl, hZ, hh⟩ := hP
  have hx := Bd.exec
  have hby := Bd.bytes
  have hml : c.maxLocals = 1 := hml0
  have hown : s.vm.findClass "com/example/mail_policy_gateway/mailpolicygateway/model/Action" = some m.cls := findClass_of_methodNamed Bd.named
  have X0 : Stand p l e ({ frames := 0, cells := 0, slots := 0, locals := 0 } : Room) s m #[(.ref a_SMIME_SIGN)] below meth c s₁ [] 0 0 := Stand.of_body Bd
  have e0 : s₁.heap = h0 := by rw [← hh, Bd.state]; rfl
  have N0 := Fr.nil n0
  have pre0 : ∀ t, Steps p.tables e below (s₁.setTop (mkF m 0 #[.val (.ref a_SMIME_SIGN)] [])) t → Steps p.tables e below (s₁.setTop (entryFrame m #[(.ref a_SMIME_SIGN)] 1)) t := fun t k => castTop (ef_1 m a_SMIME_SIGN) k
  obtain ⟨T1, X1, e1, st1⟩ := getS2 X0 hx hZ hown (host := "") (Or.inl (hw _ (List.mem_of_getElem? (i := 22) rfl))) Via.refl e0 (fx_S_DELIVER FF) (g := (mkF m 1 #[.val (.ref a_SMIME_SIGN)] [(.ref a_SMIME_SIGN)])) rfl (hb hby d1_1)
  obtain ⟨T2, X2, e2, st2⟩ := getF X1 hx hZ hown (host := "") (Or.inl (hw _ (List.mem_of_getElem? (i := 23) rfl))) Via.refl e1 (fx_F_SMIME_SIGN_signs FF) (g := (mkF m 8 #[.val (.ref a_SMIME_SIGN)] [(.ref a_SMIME_SIGN)])) rfl rfl (hb hby d1_8)
  obtain ⟨fs, hr, hrun, hended, hW, hsame⟩ := X2.leave (v := some (.int (1 : Int32))) (fun h => by rw [Bd.returns] at h; cases h)
  refine ⟨_, _, pre0 _ ?_, hrun, hended, _, _, rfl, ?_, ⟨_, rfl⟩, hW, hsame.mono (by decide) (by decide)⟩
  · show Steps p.tables e below (s₁.setTop (mkF m 0 #[.val (.ref a_SMIME_SIGN)] [])) _
    refine XS.aloadN X0.here hx rfl (hb hby d1_0) rfl rfl ?_
    show Steps p.tables e below (s₁.setTop (mkF m 1 #[.val (.ref a_SMIME_SIGN)] [(.ref a_SMIME_SIGN)])) _
    refine st1 _ ?_
    show Steps p.tables e below (T1.setTop (mkF m 4 #[.val (.ref a_SMIME_SIGN)] [(.ref a_DELIVER), (.ref a_SMIME_SIGN)])) _
    refine Jvm.RoadKit.acmp (g := (mkF m 4 #[.val (.ref a_SMIME_SIGN)] [(.ref a_DELIVER), (.ref a_SMIME_SIGN)])) X1 hx rfl rfl rfl (pc0 := 4) (pc' := 7) (same := false) rfl (hb hby d1_4) rfl (decide_eq_false fun q => Fld.ne (fx_F_SMIME_SIGN_ordinal FF) (fx_F_DELIVER_ordinal FF) (by decide) (Value.ref.inj q)) (by decide) (by decide) ?_
    show Steps p.tables e below (T1.setTop (mkF m 7 #[.val (.ref a_SMIME_SIGN)] [])) _
    refine XS.aloadN X1.here hx rfl (hb hby d1_7) rfl rfl ?_
    show Steps p.tables e below (T1.setTop (mkF m 8 #[.val (.ref a_SMIME_SIGN)] [(.ref a_SMIME_SIGN)])) _
    refine st2 _ ?_
    show Steps p.tables e below (T2.setTop (mkF m 11 #[.val (.ref a_SMIME_SIGN)] [(.int (1 : Int32))])) _
    refine XS.ifYes X2.here hx rfl (pc0 := 11) (pc' := 21) rfl (hb hby d1_11) rfl (by decide) (by decide) (by decide) ?_
    show Steps p.tables e below (T2.setTop (mkF m 21 #[.val (.ref a_SMIME_SIGN)] [])) _
    refine XS.iconst X2.here hx rfl (hb hby d1_21) ?_
    show Steps p.tables e below (T2.setTop (mkF m 22 #[.val (.ref a_SMIME_SIGN)] [(.int (1 : Int32))])) _
    refine XS.goto X2.here hx rfl (pc0 := 22) (pc' := 26) rfl (hb hby d1_22) (by decide) (by decide) ?_
    show Steps p.tables e below (T2.setTop (mkF m 26 #[.val (.ref a_SMIME_SIGN)] [(.int (1 : Int32))])) _
    exact retN X2 hx (t := .boolean) Bd.returns (by simp) (hb hby d1_26) hr
  · show own_Q _ _ _ _ T2.heap _
    exact ⟨rfl, N0, e2⟩
set_option maxRecDepth 65536 in
set_option maxHeartbeats 40000000 in
theorem rm0_3 (l : Launch) (Z : State) (a0 : Array Value) (hw : ∀ d ∈ tables_1, d.before a0 Z = true) (ws : List Jvm.Cond) (p0 : Int32) (a_DELIVER a_REJECT a_QUARANTINE a_SMIME_SIGN a_SMIME_ENCRYPT a_SMIME_SIGN_ENCRYPT : Addr) (h0 : Heap) (n0 : Nat) (Z0 : n0 ≤ h0.size) (FF : Facts Z h0 a_DELIVER a_REJECT a_QUARANTINE a_SMIME_SIGN a_SMIME_ENCRYPT a_SMIME_SIGN_ENCRYPT) (hk0 : ((p0 &&& (2147483647 : Int32)) % (6 : Int32)) = (3 : Int32)) :
    MetFree l x (head1 (Jvm.Cond.code x code maxLocals ret :: ws) room_1) (fun a U => a = #[(.int p0)] ∧ Z.Warmed39 U.vm ∧ U.heap = h0) (fun _ _ _ _ _ => True) (fun _ U o U' => ∃ v L, o = .returned v ∧ (v = some (.int (1 : Int32)) ∧ Fr n0 L) ∧ FrameEnd U o U' L room_1.cells room_1.slots) := by
  refine MetFree.of_bodySF (plainFor_of_name pn_0) hisR ?_
  intro p e s m args below meth c s₁ Bd hml0 hP hK
  obtain ⟨rfl, hZ, hh⟩ := hP
  have hx := Bd.exec
  have hby := Bd.bytes
  have hml : c.maxLocals = 4 := hml0
  have hown : s.vm.findClass "com/example/mail_policy_gateway/mailpolicygateway/model/ActionDeliversPinLaw" = some m.cls := findClass_of_methodNamed Bd.named
  have X0 : Stand p l e room_1 s m #[(.int p0)] below meth c s₁ [] 0 0 := Stand.of_body Bd
  have e0 : s₁.heap = h0 := by rw [← hh, Bd.state]; rfl
  have N0 := Fr.nil n0
  have pre0 : ∀ t, Steps p.tables e below (s₁.setTop (mkF m 0 #[.val (.int p0), .unset, .unset, .unset] [])) t → Steps p.tables e below (s₁.setTop (entryFrame m #[(.int p0)] maxLocals)) t := fun t k => castTop (ef_0 m p0) k
  obtain ⟨T1, h1, k1, X1, e1, E1, A1, O1, st1⟩ := newR X0 hx hZ hown (hw _ (List.mem_of_getElem? (i := 0) rfl)) (hw _ (List.mem_of_getElem? (i := 1) rfl)) e0 (g := (mkF m 2 #[.val (.int p0), .unset, .unset, .unset] [(.int (6 : Int32))])) rfl (hb hby at_2) rfl (by decide) (cap := 6) (by decide) (by decide) (by decide) (by decide)
  obtain ⟨b1, g1⟩ : ∃ z, z = h0.size := ⟨_, rfl⟩
  rw [← g1] at A1 st1
  have V1 : Arv Z h1 b1 k1 (.object "com/example/mail_policy_gateway/mailpolicygateway/model/Action") (6 : Int32) [.null, .null, .null, .null, .null, .null] .null := (Arv.new A1 (by decide)).pad (pad_rep [] .null 6)
  have s_b1 : h0.size ≤ b1 := Nat.le_trans (Nat.le_refl _) (Nat.le_of_eq g1.symm)
  have z1 : h0.size ≤ h1.size := Nat.le_trans (Nat.le_refl _) E1.1
  have FF1 := Facts.ext FF E1
  obtain ⟨T2, X2, e2, st2⟩ := getS2 X1 hx hZ hown (host := "") (Or.inl (hw _ (List.mem_of_getElem? (i := 2) rfl))) Via.refl e1 (fx_S_DELIVER FF1) (g := (mkF m 8 #[.val (.int p0), .val (.ref b1), .unset, .unset] [(.int (0 : Int32)), (.ref b1)])) rfl (hb hby at_8)
  obtain ⟨c3, r3, q3, S3, M3, H3, G3⟩ := V1
  have i3 : ¬ ((0 : Int32) < 0 ∨ c3.slots.size ≤ ((0 : Int32)).toNatClampNeg) := inb_of S3 ⟨by decide, by decide⟩
  obtain ⟨T4, h4, X4, e4, W4, st4⟩ := stR X2 hx hZ e2 r3 (j := (0 : Int32)) i3 rfl (Sto.ofV r3 q3 O1 (Ins.self (fx_E_DELIVER FF1))) (g := (mkF m 11 #[.val (.int p0), .val (.ref b1), .unset, .unset] [(.ref a_DELIVER), (.int (0 : Int32)), (.ref b1)])) rfl rfl (hb hby at_11)
  have V4 : Arv Z h4 b1 k1 (.object "com/example/mail_policy_gateway/mailpolicygateway/model/Action") (6 : Int32) [(.ref a_DELIVER), .null, .null, .null, .null, .null] .null := Arv.set r3 q3 S3 M3 H3 G3 rfl W4 0 rfl (Nat.le_of_ble_eq_true rfl)
  have z4 : h0.size ≤ h4.size := Nat.le_trans z1 (Nat.le_of_eq W4.size.symm)
  have FF4 := Facts.wr FF FF1 W4 s_b1
  have N4 := Fr.snoc X4 N0 (Nat.le_trans Z0 s_b1)
  obtain ⟨T5, X5, e5, st5⟩ := getS2 X4 hx hZ hown (host := "") (Or.inl (hw _ (List.mem_of_getElem? (i := 6) rfl))) Via.refl e4 (fx_S_REJECT FF4) (g := (mkF m 14 #[.val (.int p0), .val (.ref b1), .unset, .unset] [(.int (1 : Int32)), (.ref b1)])) rfl (hb hby at_14)
  obtain ⟨c6, r6, q6, S6, M6, H6, G6⟩ := V4
  have i6 : ¬ ((1 : Int32) < 0 ∨ c6.slots.size ≤ ((1 : Int32)).toNatClampNeg) := inb_of S6 ⟨by decide, by decide⟩
  obtain ⟨T7, h7, X7, e7, W7, st7⟩ := stR X5 hx hZ e5 r6 (j := (1 : Int32)) i6 rfl (Sto.ofV r6 q6 O1 (Ins.self (fx_E_REJECT FF4))) (g := (mkF m 17 #[.val (.int p0), .val (.ref b1), .unset, .unset] [(.ref a_REJECT), (.int (1 : Int32)), (.ref b1)])) rfl rfl (hb hby at_17)
  have V7 : Arv Z h7 b1 k1 (.object "com/example/mail_policy_gateway/mailpolicygateway/model/Action") (6 : Int32) [(.ref a_DELIVER), (.ref a_REJECT), .null, .null, .null, .null] .null := Arv.set r6 q6 S6 M6 H6 G6 rfl W7 1 rfl (Nat.le_of_ble_eq_true rfl)
  have z7 : h0.size ≤ h7.size := Nat.le_trans z4 (Nat.le_of_eq W7.size.symm)
  have FF7 := Facts.wr FF FF4 W7 s_b1
  have N7 := Fr.snoc X7 N4 (Nat.le_trans Z0 s_b1)
  obtain ⟨T8, X8, e8, st8⟩ := getS2 X7 hx hZ hown (host := "") (Or.inl (hw _ (List.mem_of_getElem? (i := 8) rfl))) Via.refl e7 (fx_S_QUARANTINE FF7) (g := (mkF m 20 #[.val (.int p0), .val (.ref b1), .unset, .unset] [(.int (2 : Int32)), (.ref b1)])) rfl (hb hby at_20)
  obtain ⟨c9, r9, q9, S9, M9, H9, G9⟩ := V7
  have i9 : ¬ ((2 : Int32) < 0 ∨ c9.slots.size ≤ ((2 : Int32)).toNatClampNeg) := inb_of S9 ⟨by decide, by decide⟩
  obtain ⟨T10, h10, X10, e10, W10, st10⟩ := stR X8 hx hZ e8 r9 (j := (2 : Int32)) i9 rfl (Sto.ofV r9 q9 O1 (Ins.self (fx_E_QUARANTINE FF7))) (g := (mkF m 23 #[.val (.int p0), .val (.ref b1), .unset, .unset] [(.ref a_QUARANTINE), (.int (2 : Int32)), (.ref b1)])) rfl rfl (hb hby at_23)
  have V10 : Arv Z h10 b1 k1 (.object "com/example/mail_policy_gateway/mailpolicygateway/model/Action") (6 : Int32) [(.ref a_DELIVER), (.ref a_REJECT), (.ref a_QUARANTINE), .null, .null, .null] .null := Arv.set r9 q9 S9 M9 H9 G9 rfl W10 2 rfl (Nat.le_of_ble_eq_true rfl)
  have z10 : h0.size ≤ h10.size := Nat.le_trans z7 (Nat.le_of_eq W10.size.symm)
  have FF10 := Facts.wr FF FF7 W10 s_b1
  have N10 := Fr.snoc X10 N7 (Nat.le_trans Z0 s_b1)
  obtain ⟨T11, X11, e11, st11⟩ := getS2 X10 hx hZ hown (host := "") (Or.inl (hw _ (List.mem_of_getElem? (i := 10) rfl))) Via.refl e10 (fx_S_SMIME_SIGN FF10) (g := (mkF m 26 #[.val (.int p0), .val (.ref b1), .unset, .unset] [(.int (3 : Int32)), (.ref b1)])) rfl (hb hby at_26)
  obtain ⟨c12, r12, q12, S12, M12, H12, G12⟩ := V10
  have i12 : ¬ ((3 : Int32) < 0 ∨ c12.slots.size ≤ ((3 : Int32)).toNatClampNeg) := inb_of S12 ⟨by decide, by decide⟩
  obtain ⟨T13, h13, X13, e13, W13, st13⟩ := stR X11 hx hZ e11 r12 (j := (3 : Int32)) i12 rfl (Sto.ofV r12 q12 O1 (Ins.self (fx_E_SMIME_SIGN FF10))) (g := (mkF m 29 #[.val (.int p0), .val (.ref b1), .unset, .unset] [(.ref a_SMIME_SIGN), (.int (3 : Int32)), (.ref b1)])) rfl rfl (hb hby at_29)
  have V13 : Arv Z h13 b1 k1 (.object "com/example/mail_policy_gateway/mailpolicygateway/model/Action") (6 : Int32) [(.ref a_DELIVER), (.ref a_REJECT), (.ref a_QUARANTINE), (.ref a_SMIME_SIGN), .null, .null] .null := Arv.set r12 q12 S12 M12 H12 G12 rfl W13 3 rfl (Nat.le_of_ble_eq_true rfl)
  have z13 : h0.size ≤ h13.size := Nat.le_trans z10 (Nat.le_of_eq W13.size.symm)
  have FF13 := Facts.wr FF FF10 W13 s_b1
  have N13 := Fr.snoc X13 N10 (Nat.le_trans Z0 s_b1)
  obtain ⟨T14, X14, e14, st14⟩ := getS2 X13 hx hZ hown (host := "") (Or.inl (hw _ (List.mem_of_getElem? (i := 12) rfl))) Via.refl e13 (fx_S_SMIME_ENCRYPT FF13) (g := (mkF m 32 #[.val (.int p0), .val (.ref b1), .unset, .unset] [(.int (4 : Int32)), (.ref b1)])) rfl (hb hby at_32)
  obtain ⟨c15, r15, q15, S15, M15, H15, G15⟩ := V13
  have i15 : ¬ ((4 : Int32) < 0 ∨ c15.slots.size ≤ ((4 : Int32)).toNatClampNeg) := inb_of S15 ⟨by decide, by decide⟩
  obtain ⟨T16, h16, X16, e16, W16, st16⟩ := stR X14 hx hZ e14 r15 (j := (4 : Int32)) i15 rfl (Sto.ofV r15 q15 O1 (Ins.self (fx_E_SMIME_ENCRYPT FF13))) (g := (mkF m 35 #[.val (.int p0), .val (.ref b1), .unset, .unset] [(.ref a_SMIME_ENCRYPT), (.int (4 : Int32)), (.ref b1)])) rfl rfl (hb hby at_35)
  have V16 : Arv Z h16 b1 k1 (.object "com/example/mail_policy_gateway/mailpolicygateway/model/Action") (6 : Int32) [(.ref a_DELIVER), (.ref a_REJECT), (.ref a_QUARANTINE), (.ref a_SMIME_SIGN), (.ref a_SMIME_ENCRYPT), .null] .null := Arv.set r15 q15 S15 M15 H15 G15 rfl W16 4 rfl (Nat.le_of_ble_eq_true rfl)
  have z16 : h0.size ≤ h16.size := Nat.le_trans z13 (Nat.le_of_eq W16.size.symm)
  have FF16 := Facts.wr FF FF13 W16 s_b1
  have N16 := Fr.snoc X16 N13 (Nat.le_trans Z0 s_b1)
  obtain ⟨T17, X17, e17, st17⟩ := getS2 X16 hx hZ hown (host := "") (Or.inl (hw _ (List.mem_of_getElem? (i := 14) rfl))) Via.refl e16 (fx_S_SMIME_SIGN_ENCRYPT FF16) (g := (mkF m 38 #[.val (.int p0), .val (.ref b1), .unset, .unset] [(.int (5 : Int32)), (.ref b1)])) rfl (hb hby at_38)
  obtain ⟨c18, r18, q18, S18, M18, H18, G18⟩ := V16
  have i18 : ¬ ((5 : Int32) < 0 ∨ c18.slots.size ≤ ((5 : Int32)).toNatClampNeg) := inb_of S18 ⟨by decide, by decide⟩
  obtain ⟨T19, h19, X19, e19, W19, st19⟩ := stR X17 hx hZ e17 r18 (j := (5 : Int32)) i18 rfl (Sto.ofV r18 q18 O1 (Ins.self (fx_E_SMIME_SIGN_ENCRYPT FF16))) (g := (mkF m 41 #[.val (.int p0), .val (.ref b1), .unset, .unset] [(.ref a_SMIME_SIGN_ENCRYPT), (.int (5 : Int32)), (.ref b1)])) rfl rfl (hb hby at_41)
  have V19 : Arv Z h19 b1 k1 (.object "com/example/mail_policy_gateway/mailpolicygateway/model/Action") (6 : Int32) [(.ref a_DELIVER), (.ref a_REJECT), (.ref a_QUARANTINE), (.ref a_SMIME_SIGN), (.ref a_SMIME_ENCRYPT), (.ref a_SMIME_SIGN_ENCRYPT)] .null := Arv.set r18 q18 S18 M18 H18 G18 rfl W19 5 rfl (Nat.le_of_ble_eq_true rfl)
  have z19 : h0.size ≤ h19.size := Nat.le_trans z16 (Nat.le_of_eq W19.size.symm)
  have FF19 := Facts.wr FF FF16 W19 s_b1
  have N19 := Fr.snoc X19 N16 (Nat.le_trans Z0 s_b1)
  obtain ⟨c20, r20, -, S20, -, H20, -⟩ := V19
  have i20 : ¬ ((3 : Int32) < 0 ∨ c20.slots.size ≤ ((3 : Int32)).toNatClampNeg) := inb_of S20 ⟨by decide, by decide⟩
  have y20 : c20.slots[((3 : Int32)).toNatClampNeg]? = some (.ref a_SMIME_SIGN) := H20 3 (by rw [S20]; decide)
  obtain ⟨cq21, kq21, q21a, q21b, q21c⟩ := isOf hZ e19 (fx_E_SMIME_SIGN FF19)
  obtain ⟨_, _, ⟨T21, L21, k21, n21⟩, -, X21, ⟨Lc21, hQ21, l21, y21, z21⟩, st21⟩ := X19.virtualBack hx (y := (⟨"com/example/mail_policy_gateway/mailpolicygateway/model/Action", "delivers", "()Z"⟩ : MethodName)) (z := (⟨"com/example/mail_policy_gateway/mailpolicygateway/model/Action", "delivers", "()Z"⟩ : MethodName)) hown (mvT hZ (hw _ (List.mem_of_getElem? (i := 17) rfl))) (mvT hZ (hw _ (List.mem_of_getElem? (i := 18) rfl))) (notFace_of_selects (args := #[]) (mvT hZ (hw _ (List.mem_of_getElem? (i := 20) rfl)))) (mvT hZ (hw _ (List.mem_of_getElem? (i := 20) rfl))) (mvT hZ (hw _ (List.mem_of_getElem? (i := 19) rfl))) (by decide) (backOf (W := 0) (rm1_3 l Z a0 hw [] p0 a_DELIVER a_REJECT a_QUARANTINE a_SMIME_SIGN a_SMIME_ENCRYPT a_SMIME_SIGN_ENCRYPT h19 n0 (Nat.le_trans Z0 z19) FF19) hZ (hw _ (List.mem_of_getElem? (i := 21) rfl)) (hw _ (List.mem_of_getElem? (i := 3) rfl)) (by decide) (by decide)) q21a q21c (g := (mkF m 75 #[.val (.int p0), .val (.ref b1), .val (.int (3 : Int32)), .val (.int (1 : Int32))] [(.ref a_SMIME_SIGN)])) rfl (by rw [hml]; rfl) (Steps.refl _) (argsL := []) (rest := []) (lenOf pd_0 rfl) rfl (by show 2 * 0 + _ ≤ _; exact Nat.le_of_eq rfl) (hb hby at_75) (fun _ _ => ⟨rfl, e19, (by decide : 1 + 0 ≤ _), (by decide : 6 + 0 ≤ _)⟩)
  dsimp only [Pt.U, Pt.locs, Pt.cells, Pt.slots] at X21 l21 y21 z21 st21 hQ21
  subst l21 y21 z21
  obtain ⟨rfl, N21q, e21⟩ := hQ21
  have N21 := Fr.app N19 N21q
  obtain ⟨fs, hr, hrun, hended, hW, hsame⟩ := X21.leave (v := some (.int (1 : Int32))) (fun h => by rw [Bd.returns] at h; cases h)
  refine ⟨_, _, pre0 _ ?_, hrun, hended, _, _, rfl, ?_, ⟨_, rfl⟩, hW, hsame.mono (by decide) (by decide)⟩
  · show Steps p.tables e below (s₁.setTop (mkF m 0 #[.val (.int p0), .unset, .unset, .unset] [])) _
    refine XS.bipush X0.here hx rfl (hb hby at_0) ?_
    show Steps p.tables e below (s₁.setTop (mkF m 2 #[.val (.int p0), .unset, .unset, .unset] [(.int (6 : Int32))])) _
    refine st1 _ ?_
    show Steps p.tables e below (T1.setTop (mkF m 5 #[.val (.int p0), .unset, .unset, .unset] [(.ref b1)])) _
    refine XS.astoreN X1.here hx rfl (hb hby at_5) rfl rfl (l' := #[.val (.int p0), .val (.ref b1), .unset, .unset]) rfl ?_
    show Steps p.tables e below (T1.setTop (mkF m 6 #[.val (.int p0), .val (.ref b1), .unset, .unset] [])) _
    refine XS.aloadN X1.here hx rfl (hb hby at_6) rfl rfl ?_
    show Steps p.tables e below (T1.setTop (mkF m 7 #[.val (.int p0), .val (.ref b1), .unset, .unset] [(.ref b1)])) _
    refine XS.iconst X1.here hx rfl (hb hby at_7) ?_
    show Steps p.tables e below (T1.setTop (mkF m 8 #[.val (.int p0), .val (.ref b1), .unset, .unset] [(.int (0 : Int32)), (.ref b1)])) _
    refine st2 _ ?_
    show Steps p.tables e below (T2.setTop (mkF m 11 #[.val (.int p0), .val (.ref b1), .unset, .unset] [(.ref a_DELIVER), (.int (0 : Int32)), (.ref b1)])) _
    refine st4 _ ?_
    show Steps p.tables e below (T4.setTop (mkF m 12 #[.val (.int p0), .val (.ref b1), .unset, .unset] [])) _
    refine XS.aloadN X4.here hx rfl (hb hby at_12) rfl rfl ?_
    show Steps p.tables e below (T4.setTop (mkF m 13 #[.val (.int p0), .val (.ref b1), .unset, .unset] [(.ref b1)])) _
    refine XS.iconst X4.here hx rfl (hb hby at_13) ?_
    show Steps p.tables e below (T4.setTop (mkF m 14 #[.val (.int p0), .val (.ref b1), .unset, .unset] [(.int (1 : Int32)), (.ref b1)])) _
    refine st5 _ ?_
    show Steps p.tables e below (T5.setTop (mkF m 17 #[.val (.int p0), .val (.ref b1), .unset, .unset] [(.ref a_REJECT), (.int (1 : Int32)), (.ref b1)])) _
    refine st7 _ ?_
    show Steps p.tables e below (T7.setTop (mkF m 18 #[.val (.int p0), .val (.ref b1), .unset, .unset] [])) _
    refine XS.aloadN X7.here hx rfl (hb hby at_18) rfl rfl ?_
    show Steps p.tables e below (T7.setTop (mkF m 19 #[.val (.int p0), .val (.ref b1), .unset, .unset] [(.ref b1)])) _
    refine XS.iconst X7.here hx rfl (hb hby at_19) ?_
    show Steps p.tables e below (T7.setTop (mkF m 20 #[.val (.int p0), .val (.ref b1), .unset, .unset] [(.int (2 : Int32)), (.ref b1)])) _
    refine st8 _ ?_
    show Steps p.tables e below (T8.setTop (mkF m 23 #[.val (.int p0), .val (.ref b1), .unset, .unset] [(.ref a_QUARANTINE), (.int (2 : Int32)), (.ref b1)])) _
    refine st10 _ ?_
    show Steps p.tables e below (T10.setTop (mkF m 24 #[.val (.int p0), .val (.ref b1), .unset, .unset] [])) _
    refine XS.aloadN X10.here hx rfl (hb hby at_24) rfl rfl ?_
    show Steps p.tables e below (T10.setTop (mkF m 25 #[.val (.int p0), .val (.ref b1), .unset, .unset] [(.ref b1)])) _
    refine XS.iconst X10.here hx rfl (hb hby at_25) ?_
    show Steps p.tables e below (T10.setTop (mkF m 26 #[.val (.int p0), .val (.ref b1), .unset, .unset] [(.int (3 : Int32)), (.ref b1)])) _
    refine st11 _ ?_
    show Steps p.tables e below (T11.setTop (mkF m 29 #[.val (.int p0), .val (.ref b1), .unset, .unset] [(.ref a_SMIME_SIGN), (.int (3 : Int32)), (.ref b1)])) _
    refine st13 _ ?_
    show Steps p.tables e below (T13.setTop (mkF m 30 #[.val (.int p0), .val (.ref b1), .unset, .unset] [])) _
    refine XS.aloadN X13.here hx rfl (hb hby at_30) rfl rfl ?_
    show Steps p.tables e below (T13.setTop (mkF m 31 #[.val (.int p0), .val (.ref b1), .unset, .unset] [(.ref b1)])) _
    refine XS.iconst X13.here hx rfl (hb hby at_31) ?_
    show Steps p.tables e below (T13.setTop (mkF m 32 #[.val (.int p0), .val (.ref b1), .unset, .unset] [(.int (4 : Int32)), (.ref b1)])) _
    refine st14 _ ?_
    show Steps p.tables e below (T14.setTop (mkF m 35 #[.val (.int p0), .val (.ref b1), .unset, .unset] [(.ref a_SMIME_ENCRYPT), (.int (4 : Int32)), (.ref b1)])) _
    refine st16 _ ?_
    show Steps p.tables e below (T16.setTop (mkF m 36 #[.val (.int p0), .val (.ref b1), .unset, .unset] [])) _
    refine XS.aloadN X16.here hx rfl (hb hby at_36) rfl rfl ?_
    show Steps p.tables e below (T16.setTop (mkF m 37 #[.val (.int p0), .val (.ref b1), .unset, .unset] [(.ref b1)])) _
    refine XS.iconst X16.here hx rfl (hb hby at_37) ?_
    show Steps p.tables e below (T16.setTop (mkF m 38 #[.val (.int p0), .val (.ref b1), .unset, .unset] [(.int (5 : Int32)), (.ref b1)])) _
    refine st17 _ ?_
    show Steps p.tables e below (T17.setTop (mkF m 41 #[.val (.int p0), .val (.ref b1), .unset, .unset] [(.ref a_SMIME_SIGN_ENCRYPT), (.int (5 : Int32)), (.ref b1)])) _
    refine st19 _ ?_
    show Steps p.tables e below (T19.setTop (mkF m 42 #[.val (.int p0), .val (.ref b1), .unset, .unset] [])) _
    refine XS.iloadN X19.here hx rfl (hb hby at_42) rfl ?_
    show Steps p.tables e below (T19.setTop (mkF m 43 #[.val (.int p0), .val (.ref b1), .unset, .unset] [(.int p0)])) _
    refine X19.ldcInt hx hown (mvT hZ (hw _ (List.mem_of_getElem? (i := 16) rfl))) (g := (mkF m 43 #[.val (.int p0), .val (.ref b1), .unset, .unset] [(.int p0)])) rfl (hb hby at_43) _ ?_
    show Steps p.tables e below (T19.setTop (mkF m 45 #[.val (.int p0), .val (.ref b1), .unset, .unset] [(.int (2147483647 : Int32)), (.int p0)])) _
    refine XS.iand X19.here hx rfl (hb hby at_45) rfl ?_
    show Steps p.tables e below (T19.setTop (mkF m 46 #[.val (.int p0), .val (.ref b1), .unset, .unset] [(.int (p0 &&& (2147483647 : Int32)))])) _
    refine XS.bipush X19.here hx rfl (hb hby at_46) ?_
    show Steps p.tables e below (T19.setTop (mkF m 48 #[.val (.int p0), .val (.ref b1), .unset, .unset] [(.int (6 : Int32)), (.int (p0 &&& (2147483647 : Int32)))])) _
    refine iremM X19 hx rfl (hb hby at_48) rfl (by decide) ?_
    show Steps p.tables e below (T19.setTop (mkF m 49 #[.val (.int p0), .val (.ref b1), .unset, .unset] [(.int ((p0 &&& (2147483647 : Int32)) % (6 : Int32)))])) _
    rw [hk0]
    show Steps p.tables e below (T19.setTop (mkF m 49 #[.val (.int p0), .val (.ref b1), .unset, .unset] [(.int (3 : Int32))])) _
    refine XS.istoreN X19.here hx rfl (hb hby at_49) rfl (l' := #[.val (.int p0), .val (.ref b1), .val (.int (3 : Int32)), .unset]) rfl ?_
    show Steps p.tables e below (T19.setTop (mkF m 50 #[.val (.int p0), .val (.ref b1), .val (.int (3 : Int32)), .unset] [])) _
    refine XS.iloadN X19.here hx rfl (hb hby at_50) rfl ?_
    show Steps p.tables e below (T19.setTop (mkF m 51 #[.val (.int p0), .val (.ref b1), .val (.int (3 : Int32)), .unset] [(.int (3 : Int32))])) _
    refine XS.iconst X19.here hx rfl (hb hby at_51) ?_
    show Steps p.tables e below (T19.setTop (mkF m 52 #[.val (.int p0), .val (.ref b1), .val (.int (3 : Int32)), .unset] [(.int (1 : Int32)), (.int (3 : Int32))])) _
    refine XS.icmpYes X19.here hx rfl (pc0 := 52) (pc' := 60) rfl (hb hby at_52) rfl (by decide) (by decide) (by decide) ?_
    show Steps p.tables e below (T19.setTop (mkF m 60 #[.val (.int p0), .val (.ref b1), .val (.int (3 : Int32)), .unset] [])) _
    refine XS.iloadN X19.here hx rfl (hb hby at_60) rfl ?_
    show Steps p.tables e below (T19.setTop (mkF m 61 #[.val (.int p0), .val (.ref b1), .val (.int (3 : Int32)), .unset] [(.int (3 : Int32))])) _
    refine XS.iconst X19.here hx rfl (hb hby at_61) ?_
    show Steps p.tables e below (T19.setTop (mkF m 62 #[.val (.int p0), .val (.ref b1), .val (.int (3 : Int32)), .unset] [(.int (2 : Int32)), (.int (3 : Int32))])) _
    refine XS.icmpYes X19.here hx rfl (pc0 := 62) (pc' := 70) rfl (hb hby at_62) rfl (by decide) (by decide) (by decide) ?_
    show Steps p.tables e below (T19.setTop (mkF m 70 #[.val (.int p0), .val (.ref b1), .val (.int (3 : Int32)), .unset] [])) _
    refine XS.iconst X19.here hx rfl (hb hby at_70) ?_
    show Steps p.tables e below (T19.setTop (mkF m 71 #[.val (.int p0), .val (.ref b1), .val (.int (3 : Int32)), .unset] [(.int (1 : Int32))])) _
    refine XS.istoreN X19.here hx rfl (hb hby at_71) rfl (l' := #[.val (.int p0), .val (.ref b1), .val (.int (3 : Int32)), .val (.int (1 : Int32))]) rfl ?_
    show Steps p.tables e below (T19.setTop (mkF m 72 #[.val (.int p0), .val (.ref b1), .val (.int (3 : Int32)), .val (.int (1 : Int32))] [])) _
    refine XS.aloadN X19.here hx rfl (hb hby at_72) rfl rfl ?_
    show Steps p.tables e below (T19.setTop (mkF m 73 #[.val (.int p0), .val (.ref b1), .val (.int (3 : Int32)), .val (.int (1 : Int32))] [(.ref b1)])) _
    refine XS.iloadN X19.here hx rfl (hb hby at_73) rfl ?_
    show Steps p.tables e below (T19.setTop (mkF m 74 #[.val (.int p0), .val (.ref b1), .val (.int (3 : Int32)), .val (.int (1 : Int32))] [(.int (3 : Int32)), (.ref b1)])) _
    refine X19.aaload hx (j := (3 : Int32)) (v := (.ref a_SMIME_SIGN)) (by rw [e19]; exact r20.1) (State.isArrayOf_alike hZ.alike r20.2.1) rfl r20.2.2 i20 y20 (g := (mkF m 74 #[.val (.int p0), .val (.ref b1), .val (.int (3 : Int32)), .val (.int (1 : Int32))] [(.int (3 : Int32)), (.ref b1)])) rfl rfl (hb hby at_74) _ ?_
    show Steps p.tables e below (T19.setTop (mkF m 75 #[.val (.int p0), .val (.ref b1), .val (.int (3 : Int32)), .val (.int (1 : Int32))] [(.ref a_SMIME_SIGN)])) _
    refine st21.trans ?_
    show Steps p.tables e below (T21.setTop (mkF m 78 #[.val (.int p0), .val (.ref b1), .val (.int (3 : Int32)), .val (.int (1 : Int32))] [(.int (1 : Int32))])) _
    refine XS.iloadN X21.here hx rfl (hb hby at_78) rfl ?_
    show Steps p.tables e below (T21.setTop (mkF m 79 #[.val (.int p0), .val (.ref b1), .val (.int (3 : Int32)), .val (.int (1 : Int32))] [(.int (1 : Int32)), (.int (1 : Int32))])) _
    refine XS.icmpNo X21.here hx rfl (hb hby at_79) rfl (by decide) ?_
    show Steps p.tables e below (T21.setTop (mkF m 82 #[.val (.int p0), .val (.ref b1), .val (.int (3 : Int32)), .val (.int (1 : Int32))] [])) _
    refine XS.iconst X21.here hx rfl (hb hby at_82) ?_
    show Steps p.tables e below (T21.setTop (mkF m 83 #[.val (.int p0), .val (.ref b1), .val (.int (3 : Int32)), .val (.int (1 : Int32))] [(.int (1 : Int32))])) _
    refine XS.goto X21.here hx rfl (pc0 := 83) (pc' := 87) rfl (hb hby at_83) (by decide) (by decide) ?_
    show Steps p.tables e below (T21.setTop (mkF m 87 #[.val (.int p0), .val (.ref b1), .val (.int (3 : Int32)), .val (.int (1 : Int32))] [(.int (1 : Int32))])) _
    exact retN X21 hx (t := .boolean) Bd.returns (by simp) (hb hby at_87) hr
  · exact ⟨rfl, N21⟩
set_option maxRecDepth 65536 in
set_option maxHeartbeats 40000000 in
theorem rm1_4 (l : Launch) (Z : State) (a0 : Array Value) (hw : ∀ d ∈ tables_1, d.before a0 Z = true) (ws : List Jvm.Cond) (p0 : Int32) (a_DELIVER a_REJECT a_QUARANTINE a_SMIME_SIGN a_SMIME_ENCRYPT a_SMIME_SIGN_ENCRYPT : Addr) (h0 : Heap) (n0 : Nat) (Z0 : n0 ≤ h0.size) (FF : Facts Z h0 a_DELIVER a_REJECT a_QUARANTINE a_SMIME_SIGN a_SMIME_ENCRYPT a_SMIME_SIGN_ENCRYPT) :
    MetFree l (⟨"com/example/mail_policy_gateway/mailpolicygateway/model/Action", "delivers", "()Z"⟩ : MethodName) (head1 (Jvm.Cond.code (⟨"com/example/mail_policy_gateway/mailpolicygateway/model/Action", "delivers", "()Z"⟩ : MethodName) prog_34_method_6_code 1 (some .boolean) :: ws) ({ frames := 0, cells := 0, slots := 0, locals := 0 } : Room)) (fun a U => a = #[(.ref a_SMIME_ENCRYPT)] ∧ Z.Warmed39 U.vm ∧ U.heap = h0) (fun _ _ _ _ _ => True) (fun _ U o U' => ∃ v L, o = .returned v ∧ own_Q (.int (1 : Int32)) h0 n0 v U'.heap L ∧ FrameEnd U o U' L ({ frames := 0, cells := 0, slots := 0, locals := 0 } : Room).cells ({ frames := 0, cells := 0, slots := 0, locals := 0 } : Room).slots) := by
  refine MetFree.of_bodySF (plainFor_of_name pn_1) hisR ?_
  intro p e s m args below meth c s₁ Bd hml0 hP hK
  obtain ⟨rfl, hZ, hh⟩ := hP
  have hx := Bd.exec
  have hby := Bd.bytes
  have hml : c.maxLocals = 1 := hml0
  have hown : s.vm.findClass "com/example/mail_policy_gateway/mailpolicygateway/model/Action" = some m.cls := findClass_of_methodNamed Bd.named
  have X0 : Stand p l e ({ frames := 0, cells := 0, slots := 0, locals := 0 } : Room) s m #[(.ref a_SMIME_ENCRYPT)] below meth c s₁ [] 0 0 := Stand.of_body Bd
  have e0 : s₁.heap = h0 := by rw [← hh, Bd.state]; rfl
  have N0 := Fr.nil n0
  have pre0 : ∀ t, Steps p.tables e below (s₁.setTop (mkF m 0 #[.val (.ref a_SMIME_ENCRYPT)] [])) t → Steps p.tables e below (s₁.setTop (entryFrame m #[(.ref a_SMIME_ENCRYPT)] 1)) t := fun t k => castTop (ef_1 m a_SMIME_ENCRYPT) k
  obtain ⟨T1, X1, e1, st1⟩ := getS2 X0 hx hZ hown (host := "") (Or.inl (hw _ (List.mem_of_getElem? (i := 22) rfl))) Via.refl e0 (fx_S_DELIVER FF) (g := (mkF m 1 #[.val (.ref a_SMIME_ENCRYPT)] [(.ref a_SMIME_ENCRYPT)])) rfl (hb hby d1_1)
  obtain ⟨T2, X2, e2, st2⟩ := getF X1 hx hZ hown (host := "") (Or.inl (hw _ (List.mem_of_getElem? (i := 23) rfl))) Via.refl e1 (fx_F_SMIME_ENCRYPT_signs FF) (g := (mkF m 8 #[.val (.ref a_SMIME_ENCRYPT)] [(.ref a_SMIME_ENCRYPT)])) rfl rfl (hb hby d1_8)
  obtain ⟨T3, X3, e3, st3⟩ := getF X2 hx hZ hown (host := "") (Or.inl (hw _ (List.mem_of_getElem? (i := 25) rfl))) Via.refl e2 (fx_F_SMIME_ENCRYPT_encrypts FF) (g := (mkF m 15 #[.val (.ref a_SMIME_ENCRYPT)] [(.ref a_SMIME_ENCRYPT)])) rfl rfl (hb hby d1_15)
  obtain ⟨fs, hr, hrun, hended, hW, hsame⟩ := X3.leave (v := some (.int (1 : Int32))) (fun h => by rw [Bd.returns] at h; cases h)
  refine ⟨_, _, pre0 _ ?_, hrun, hended, _, _, rfl, ?_, ⟨_, rfl⟩, hW, hsame.mono (by decide) (by decide)⟩
  · show Steps p.tables e below (s₁.setTop (mkF m 0 #[.val (.ref a_SMIME_ENCRYPT)] [])) _
    refine XS.aloadN X0.here hx rfl (hb hby d1_0) rfl rfl ?_
    show Steps p.tables e below (s₁.setTop (mkF m 1 #[.val (.ref a_SMIME_ENCRYPT)] [(.ref a_SMIME_ENCRYPT)])) _
    refine st1 _ ?_
    show Steps p.tables e below (T1.setTop (mkF m 4 #[.val (.ref a_SMIME_ENCRYPT)] [(.ref a_DELIVER), (.ref a_SMIME_ENCRYPT)])) _
    refine Jvm.RoadKit.acmp (g := (mkF m 4 #[.val (.ref a_SMIME_ENCRYPT)] [(.ref a_DELIVER), (.ref a_SMIME_ENCRYPT)])) X1 hx rfl rfl rfl (pc0 := 4) (pc' := 7) (same := false) rfl (hb hby d1_4) rfl (decide_eq_false fun q => Fld.ne (fx_F_SMIME_ENCRYPT_ordinal FF) (fx_F_DELIVER_ordinal FF) (by decide) (Value.ref.inj q)) (by decide) (by decide) ?_
    show Steps p.tables e below (T1.setTop (mkF m 7 #[.val (.ref a_SMIME_ENCRYPT)] [])) _
    refine XS.aloadN X1.here hx rfl (hb hby d1_7) rfl rfl ?_
    show Steps p.tables e below (T1.setTop (mkF m 8 #[.val (.ref a_SMIME_ENCRYPT)] [(.ref a_SMIME_ENCRYPT)])) _
    refine st2 _ ?_
    show Steps p.tables e below (T2.setTop (mkF m 11 #[.val (.ref a_SMIME_ENCRYPT)] [(.int (0 : Int32))])) _
    refine XS.ifNo X2.here hx rfl (hb hby d1_11) rfl (by decide) ?_
    show Steps p.tables e below (T2.setTop (mkF m 14 #[.val (.ref a_SMIME_ENCRYPT)] [])) _
    refine XS.aloadN X2.here hx rfl (hb hby d1_14) rfl rfl ?_
    show Steps p.tables e below (T2.setTop (mkF m 15 #[.val (.ref a_SMIME_ENCRYPT)] [(.ref a_SMIME_ENCRYPT)])) _
    refine st3 _ ?_
    show Steps p.tables e below (T3.setTop (mkF m 18 #[.val (.ref a_SMIME_ENCRYPT)] [(.int (1 : Int32))])) _
    refine XS.ifNo X3.here hx rfl (hb hby d1_18) rfl (by decide) ?_
    show Steps p.tables e below (T3.setTop (mkF m 21 #[.val (.ref a_SMIME_ENCRYPT)] [])) _
    refine XS.iconst X3.here hx rfl (hb hby d1_21) ?_
    show Steps p.tables e below (T3.setTop (mkF m 22 #[.val (.ref a_SMIME_ENCRYPT)] [(.int (1 : Int32))])) _
    refine XS.goto X3.here hx rfl (pc0 := 22) (pc' := 26) rfl (hb hby d1_22) (by decide) (by decide) ?_
    show Steps p.tables e below (T3.setTop (mkF m 26 #[.val (.ref a_SMIME_ENCRYPT)] [(.int (1 : Int32))])) _
    exact retN X3 hx (t := .boolean) Bd.returns (by simp) (hb hby d1_26) hr
  · show own_Q _ _ _ _ T3.heap _
    exact ⟨rfl, N0, e3⟩
set_option maxRecDepth 65536 in
set_option maxHeartbeats 40000000 in
theorem rm0_4 (l : Launch) (Z : State) (a0 : Array Value) (hw : ∀ d ∈ tables_1, d.before a0 Z = true) (ws : List Jvm.Cond) (p0 : Int32) (a_DELIVER a_REJECT a_QUARANTINE a_SMIME_SIGN a_SMIME_ENCRYPT a_SMIME_SIGN_ENCRYPT : Addr) (h0 : Heap) (n0 : Nat) (Z0 : n0 ≤ h0.size) (FF : Facts Z h0 a_DELIVER a_REJECT a_QUARANTINE a_SMIME_SIGN a_SMIME_ENCRYPT a_SMIME_SIGN_ENCRYPT) (hk0 : ((p0 &&& (2147483647 : Int32)) % (6 : Int32)) = (4 : Int32)) :
    MetFree l x (head1 (Jvm.Cond.code x code maxLocals ret :: ws) room_1) (fun a U => a = #[(.int p0)] ∧ Z.Warmed39 U.vm ∧ U.heap = h0) (fun _ _ _ _ _ => True) (fun _ U o U' => ∃ v L, o = .returned v ∧ (v = some (.int (1 : Int32)) ∧ Fr n0 L) ∧ FrameEnd U o U' L room_1.cells room_1.slots) := by
  refine MetFree.of_bodySF (plainFor_of_name pn_0) hisR ?_
  intro p e s m args below meth c s₁ Bd hml0 hP hK
  obtain ⟨rfl, hZ, hh⟩ := hP
  have hx := Bd.exec
  have hby := Bd.bytes
  have hml : c.maxLocals = 4 := hml0
  have hown : s.vm.findClass "com/example/mail_policy_gateway/mailpolicygateway/model/ActionDeliversPinLaw" = some m.cls := findClass_of_methodNamed Bd.named
  have X0 : Stand p l e room_1 s m #[(.int p0)] below meth c s₁ [] 0 0 := Stand.of_body Bd
  have e0 : s₁.heap = h0 := by rw [← hh, Bd.state]; rfl
  have N0 := Fr.nil n0
  have pre0 : ∀ t, Steps p.tables e below (s₁.setTop (mkF m 0 #[.val (.int p0), .unset, .unset, .unset] [])) t → Steps p.tables e below (s₁.setTop (entryFrame m #[(.int p0)] maxLocals)) t := fun t k => castTop (ef_0 m p0) k
  obtain ⟨T1, h1, k1, X1, e1, E1, A1, O1, st1⟩ := newR X0 hx hZ hown (hw _ (List.mem_of_getElem? (i := 0) rfl)) (hw _ (List.mem_of_getElem? (i := 1) rfl)) e0 (g := (mkF m 2 #[.val (.int p0), .unset, .unset, .unset] [(.int (6 : Int32))])) rfl (hb hby at_2) rfl (by decide) (cap := 6) (by decide) (by decide) (by decide) (by decide)
  obtain ⟨b1, g1⟩ : ∃ z, z = h0.size := ⟨_, rfl⟩
  rw [← g1] at A1 st1
  have V1 : Arv Z h1 b1 k1 (.object "com/example/mail_policy_gateway/mailpolicygateway/model/Action") (6 : Int32) [.null, .null, .null, .null, .null, .null] .null := (Arv.new A1 (by decide)).pad (pad_rep [] .null 6)
  have s_b1 : h0.size ≤ b1 := Nat.le_trans (Nat.le_refl _) (Nat.le_of_eq g1.symm)
  have z1 : h0.size ≤ h1.size := Nat.le_trans (Nat.le_refl _) E1.1
  have FF1 := Facts.ext FF E1
  obtain ⟨T2, X2, e2, st2⟩ := getS2 X1 hx hZ hown (host := "") (Or.inl (hw _ (List.mem_of_getElem? (i := 2) rfl))) Via.refl e1 (fx_S_DELIVER FF1) (g := (mkF m 8 #[.val (.int p0), .val (.ref b1), .unset, .unset] [(.int (0 : Int32)), (.ref b1)])) rfl (hb hby at_8)
  obtain ⟨c3, r3, q3, S3, M3, H3, G3⟩ := V1
  have i3 : ¬ ((0 : Int32) < 0 ∨ c3.slots.size ≤ ((0 : Int32)).toNatClampNeg) := inb_of S3 ⟨by decide, by decide⟩
  obtain ⟨T4, h4, X4, e4, W4, st4⟩ := stR X2 hx hZ e2 r3 (j := (0 : Int32)) i3 rfl (Sto.ofV r3 q3 O1 (Ins.self (fx_E_DELIVER FF1))) (g := (mkF m 11 #[.val (.int p0), .val (.ref b1), .unset, .unset] [(.ref a_DELIVER), (.int (0 : Int32)), (.ref b1)])) rfl rfl (hb hby at_11)
  have V4 : Arv Z h4 b1 k1 (.object "com/example/mail_policy_gateway/mailpolicygateway/model/Action") (6 : Int32) [(.ref a_DELIVER), .null, .null, .null, .null, .null] .null := Arv.set r3 q3 S3 M3 H3 G3 rfl W4 0 rfl (Nat.le_of_ble_eq_true rfl)
  have z4 : h0.size ≤ h4.size := Nat.le_trans z1 (Nat.le_of_eq W4.size.symm)
  have FF4 := Facts.wr FF FF1 W4 s_b1
  have N4 := Fr.snoc X4 N0 (Nat.le_trans Z0 s_b1)
  obtain ⟨T5, X5, e5, st5⟩ := getS2 X4 hx hZ hown (host := "") (Or.inl (hw _ (List.mem_of_getElem? (i := 6) rfl))) Via.refl e4 (fx_S_REJECT FF4) (g := (mkF m 14 #[.val (.int p0), .val (.ref b1), .unset, .unset] [(.int (1 : Int32)), (.ref b1)])) rfl (hb hby at_14)
  obtain ⟨c6, r6, q6, S6, M6, H6, G6⟩ := V4
  have i6 : ¬ ((1 : Int32) < 0 ∨ c6.slots.size ≤ ((1 : Int32)).toNatClampNeg) := inb_of S6 ⟨by decide, by decide⟩
  obtain ⟨T7, h7, X7, e7, W7, st7⟩ := stR X5 hx hZ e5 r6 (j := (1 : Int32)) i6 rfl (Sto.ofV r6 q6 O1 (Ins.self (fx_E_REJECT FF4))) (g := (mkF m 17 #[.val (.int p0), .val (.ref b1), .unset, .unset] [(.ref a_REJECT), (.int (1 : Int32)), (.ref b1)])) rfl rfl (hb hby at_17)
  have V7 : Arv Z h7 b1 k1 (.object "com/example/mail_policy_gateway/mailpolicygateway/model/Action") (6 : Int32) [(.ref a_DELIVER), (.ref a_REJECT), .null, .null, .null, .null] .null := Arv.set r6 q6 S6 M6 H6 G6 rfl W7 1 rfl (Nat.le_of_ble_eq_true rfl)
  have z7 : h0.size ≤ h7.size := Nat.le_trans z4 (Nat.le_of_eq W7.size.symm)
  have FF7 := Facts.wr FF FF4 W7 s_b1
  have N7 := Fr.snoc X7 N4 (Nat.le_trans Z0 s_b1)
  obtain ⟨T8, X8, e8, st8⟩ := getS2 X7 hx hZ hown (host := "") (Or.inl (hw _ (List.mem_of_getElem? (i := 8) rfl))) Via.refl e7 (fx_S_QUARANTINE FF7) (g := (mkF m 20 #[.val (.int p0), .val (.ref b1), .unset, .unset] [(.int (2 : Int32)), (.ref b1)])) rfl (hb hby at_20)
  obtain ⟨c9, r9, q9, S9, M9, H9, G9⟩ := V7
  have i9 : ¬ ((2 : Int32) < 0 ∨ c9.slots.size ≤ ((2 : Int32)).toNatClampNeg) := inb_of S9 ⟨by decide, by decide⟩
  obtain ⟨T10, h10, X10, e10, W10, st10⟩ := stR X8 hx hZ e8 r9 (j := (2 : Int32)) i9 rfl (Sto.ofV r9 q9 O1 (Ins.self (fx_E_QUARANTINE FF7))) (g := (mkF m 23 #[.val (.int p0), .val (.ref b1), .unset, .unset] [(.ref a_QUARANTINE), (.int (2 : Int32)), (.ref b1)])) rfl rfl (hb hby at_23)
  have V10 : Arv Z h10 b1 k1 (.object "com/example/mail_policy_gateway/mailpolicygateway/model/Action") (6 : Int32) [(.ref a_DELIVER), (.ref a_REJECT), (.ref a_QUARANTINE), .null, .null, .null] .null := Arv.set r9 q9 S9 M9 H9 G9 rfl W10 2 rfl (Nat.le_of_ble_eq_true rfl)
  have z10 : h0.size ≤ h10.size := Nat.le_trans z7 (Nat.le_of_eq W10.size.symm)
  have FF10 := Facts.wr FF FF7 W10 s_b1
  have N10 := Fr.snoc X10 N7 (Nat.le_trans Z0 s_b1)
  obtain ⟨T11, X11, e11, st11⟩ := getS2 X10 hx hZ hown (host := "") (Or.inl (hw _ (List.mem_of_getElem? (i := 10) rfl))) Via.refl e10 (fx_S_SMIME_SIGN FF10) (g := (mkF m 26 #[.val (.int p0), .val (.ref b1), .unset, .unset] [(.int (3 : Int32)), (.ref b1)])) rfl (hb hby at_26)
  obtain ⟨c12, r12, q12, S12, M12, H12, G12⟩ := V10
  have i12 : ¬ ((3 : Int32) < 0 ∨ c12.slots.size ≤ ((3 : Int32)).toNatClampNeg) := inb_of S12 ⟨by decide, by decide⟩
  obtain ⟨T13, h13, X13, e13, W13, st13⟩ := stR X11 hx hZ e11 r12 (j := (3 : Int32)) i12 rfl (Sto.ofV r12 q12 O1 (Ins.self (fx_E_SMIME_SIGN FF10))) (g := (mkF m 29 #[.val (.int p0), .val (.ref b1), .unset, .unset] [(.ref a_SMIME_SIGN), (.int (3 : Int32)), (.ref b1)])) rfl rfl (hb hby at_29)
  have V13 : Arv Z h13 b1 k1 (.object "com/example/mail_policy_gateway/mailpolicygateway/model/Action") (6 : Int32) [(.ref a_DELIVER), (.ref a_REJECT), (.ref a_QUARANTINE), (.ref a_SMIME_SIGN), .null, .null] .null := Arv.set r12 q12 S12 M12 H12 G12 rfl W13 3 rfl (Nat.le_of_ble_eq_true rfl)
  have z13 : h0.size ≤ h13.size := Nat.le_trans z10 (Nat.le_of_eq W13.size.symm)
  have FF13 := Facts.wr FF FF10 W13 s_b1
  have N13 := Fr.snoc X13 N10 (Nat.le_trans Z0 s_b1)
  obtain ⟨T14, X14, e14, st14⟩ := getS2 X13 hx hZ hown (host := "") (Or.inl (hw _ (List.mem_of_getElem? (i := 12) rfl))) Via.refl e13 (fx_S_SMIME_ENCRYPT FF13) (g := (mkF m 32 #[.val (.int p0), .val (.ref b1), .unset, .unset] [(.int (4 : Int32)), (.ref b1)])) rfl (hb hby at_32)
  obtain ⟨c15, r15, q15, S15, M15, H15, G15⟩ := V13
  have i15 : ¬ ((4 : Int32) < 0 ∨ c15.slots.size ≤ ((4 : Int32)).toNatClampNeg) := inb_of S15 ⟨by decide, by decide⟩
  obtain ⟨T16, h16, X16, e16, W16, st16⟩ := stR X14 hx hZ e14 r15 (j := (4 : Int32)) i15 rfl (Sto.ofV r15 q15 O1 (Ins.self (fx_E_SMIME_ENCRYPT FF13))) (g := (mkF m 35 #[.val (.int p0), .val (.ref b1), .unset, .unset] [(.ref a_SMIME_ENCRYPT), (.int (4 : Int32)), (.ref b1)])) rfl rfl (hb hby at_35)
  have V16 : Arv Z h16 b1 k1 (.object "com/example/mail_policy_gateway/mailpolicygateway/model/Action") (6 : Int32) [(.ref a_DELIVER), (.ref a_REJECT), (.ref a_QUARANTINE), (.ref a_SMIME_SIGN), (.ref a_SMIME_ENCRYPT), .null] .null := Arv.set r15 q15 S15 M15 H15 G15 rfl W16 4 rfl (Nat.le_of_ble_eq_true rfl)
  have z16 : h0.size ≤ h16.size := Nat.le_trans z13 (Nat.le_of_eq W16.size.symm)
  have FF16 := Facts.wr FF FF13 W16 s_b1
  have N16 := Fr.snoc X16 N13 (Nat.le_trans Z0 s_b1)
  obtain ⟨T17, X17, e17, st17⟩ := getS2 X16 hx hZ hown (host := "") (Or.inl (hw _ (List.mem_of_getElem? (i := 14) rfl))) Via.refl e16 (fx_S_SMIME_SIGN_ENCRYPT FF16) (g := (mkF m 38 #[.val (.int p0), .val (.ref b1), .unset, .unset] [(.int (5 : Int32)), (.ref b1)])) rfl (hb hby at_38)
  obtain ⟨c18, r18, q18, S18, M18, H18, G18⟩ := V16
  have i18 : ¬ ((5 : Int32) < 0 ∨ c18.slots.size ≤ ((5 : Int32)).toNatClampNeg) := inb_of S18 ⟨by decide, by decide⟩
  obtain ⟨T19, h19, X19, e19, W19, st19⟩ := stR X17 hx hZ e17 r18 (j := (5 : Int32)) i18 rfl (Sto.ofV r18 q18 O1 (Ins.self (fx_E_SMIME_SIGN_ENCRYPT FF16))) (g := (mkF m 41 #[.val (.int p0), .val (.ref b1), .unset, .unset] [(.ref a_SMIME_SIGN_ENCRYPT), (.int (5 : Int32)), (.ref b1)])) rfl rfl (hb hby at_41)
  have V19 : Arv Z h19 b1 k1 (.object "com/example/mail_policy_gateway/mailpolicygateway/model/Action") (6 : Int32) [(.ref a_DELIVER), (.ref a_REJECT), (.ref a_QUARANTINE), (.ref a_SMIME_SIGN), (.ref a_SMIME_ENCRYPT), (.ref a_SMIME_SIGN_ENCRYPT)] .null := Arv.set r18 q18 S18 M18 H18 G18 rfl W19 5 rfl (Nat.le_of_ble_eq_true rfl)
  have z19 : h0.size ≤ h19.size := Nat.le_trans z16 (Nat.le_of_eq W19.size.symm)
  have FF19 := Facts.wr FF FF16 W19 s_b1
  have N19 := Fr.snoc X19 N16 (Nat.le_trans Z0 s_b1)
  obtain ⟨c20, r20, -, S20, -, H20, -⟩ := V19
  have i20 : ¬ ((4 : Int32) < 0 ∨ c20.slots.size ≤ ((4 : Int32)).toNatClampNeg) := inb_of S20 ⟨by decide, by decide⟩
  have y20 : c20.slots[((4 : Int32)).toNatClampNeg]? = some (.ref a_SMIME_ENCRYPT) := H20 4 (by rw [S20]; decide)
  obtain ⟨cq21, kq21, q21a, q21b, q21c⟩ := isOf hZ e19 (fx_E_SMIME_ENCRYPT FF19)
  obtain ⟨_, _, ⟨T21, L21, k21, n21⟩, -, X21, ⟨Lc21, hQ21, l21, y21, z21⟩, st21⟩ := X19.virtualBack hx (y := (⟨"com/example/mail_policy_gateway/mailpolicygateway/model/Action", "delivers", "()Z"⟩ : MethodName)) (z := (⟨"com/example/mail_policy_gateway/mailpolicygateway/model/Action", "delivers", "()Z"⟩ : MethodName)) hown (mvT hZ (hw _ (List.mem_of_getElem? (i := 17) rfl))) (mvT hZ (hw _ (List.mem_of_getElem? (i := 18) rfl))) (notFace_of_selects (args := #[]) (mvT hZ (hw _ (List.mem_of_getElem? (i := 20) rfl)))) (mvT hZ (hw _ (List.mem_of_getElem? (i := 20) rfl))) (mvT hZ (hw _ (List.mem_of_getElem? (i := 19) rfl))) (by decide) (backOf (W := 0) (rm1_4 l Z a0 hw [] p0 a_DELIVER a_REJECT a_QUARANTINE a_SMIME_SIGN a_SMIME_ENCRYPT a_SMIME_SIGN_ENCRYPT h19 n0 (Nat.le_trans Z0 z19) FF19) hZ (hw _ (List.mem_of_getElem? (i := 21) rfl)) (hw _ (List.mem_of_getElem? (i := 3) rfl)) (by decide) (by decide)) q21a q21c (g := (mkF m 75 #[.val (.int p0), .val (.ref b1), .val (.int (4 : Int32)), .val (.int (1 : Int32))] [(.ref a_SMIME_ENCRYPT)])) rfl (by rw [hml]; rfl) (Steps.refl _) (argsL := []) (rest := []) (lenOf pd_0 rfl) rfl (by show 2 * 0 + _ ≤ _; exact Nat.le_of_eq rfl) (hb hby at_75) (fun _ _ => ⟨rfl, e19, (by decide : 1 + 0 ≤ _), (by decide : 6 + 0 ≤ _)⟩)
  dsimp only [Pt.U, Pt.locs, Pt.cells, Pt.slots] at X21 l21 y21 z21 st21 hQ21
  subst l21 y21 z21
  obtain ⟨rfl, N21q, e21⟩ := hQ21
  have N21 := Fr.app N19 N21q
  obtain ⟨fs, hr, hrun, hended, hW, hsame⟩ := X21.leave (v := some (.int (1 : Int32))) (fun h => by rw [Bd.returns] at h; cases h)
  refine ⟨_, _, pre0 _ ?_, hrun, hended, _, _, rfl, ?_, ⟨_, rfl⟩, hW, hsame.mono (by decide) (by decide)⟩
  · show Steps p.tables e below (s₁.setTop (mkF m 0 #[.val (.int p0), .unset, .unset, .unset] [])) _
    refine XS.bipush X0.here hx rfl (hb hby at_0) ?_
    show Steps p.tables e below (s₁.setTop (mkF m 2 #[.val (.int p0), .unset, .unset, .unset] [(.int (6 : Int32))])) _
    refine st1 _ ?_
    show Steps p.tables e below (T1.setTop (mkF m 5 #[.val (.int p0), .unset, .unset, .unset] [(.ref b1)])) _
    refine XS.astoreN X1.here hx rfl (hb hby at_5) rfl rfl (l' := #[.val (.int p0), .val (.ref b1), .unset, .unset]) rfl ?_
    show Steps p.tables e below (T1.setTop (mkF m 6 #[.val (.int p0), .val (.ref b1), .unset, .unset] [])) _
    refine XS.aloadN X1.here hx rfl (hb hby at_6) rfl rfl ?_
    show Steps p.tables e below (T1.setTop (mkF m 7 #[.val (.int p0), .val (.ref b1), .unset, .unset] [(.ref b1)])) _
    refine XS.iconst X1.here hx rfl (hb hby at_7) ?_
    show Steps p.tables e below (T1.setTop (mkF m 8 #[.val (.int p0), .val (.ref b1), .unset, .unset] [(.int (0 : Int32)), (.ref b1)])) _
    refine st2 _ ?_
    show Steps p.tables e below (T2.setTop (mkF m 11 #[.val (.int p0), .val (.ref b1), .unset, .unset] [(.ref a_DELIVER), (.int (0 : Int32)), (.ref b1)])) _
    refine st4 _ ?_
    show Steps p.tables e below (T4.setTop (mkF m 12 #[.val (.int p0), .val (.ref b1), .unset, .unset] [])) _
    refine XS.aloadN X4.here hx rfl (hb hby at_12) rfl rfl ?_
    show Steps p.tables e below (T4.setTop (mkF m 13 #[.val (.int p0), .val (.ref b1), .unset, .unset] [(.ref b1)])) _
    refine XS.iconst X4.here hx rfl (hb hby at_13) ?_
    show Steps p.tables e below (T4.setTop (mkF m 14 #[.val (.int p0), .val (.ref b1), .unset, .unset] [(.int (1 : Int32)), (.ref b1)])) _
    refine st5 _ ?_
    show Steps p.tables e below (T5.setTop (mkF m 17 #[.val (.int p0), .val (.ref b1), .unset, .unset] [(.ref a_REJECT), (.int (1 : Int32)), (.ref b1)])) _
    refine st7 _ ?_
    show Steps p.tables e below (T7.setTop (mkF m 18 #[.val (.int p0), .val (.ref b1), .unset, .unset] [])) _
    refine XS.aloadN X7.here hx rfl (hb hby at_18) rfl rfl ?_
    show Steps p.tables e below (T7.setTop (mkF m 19 #[.val (.int p0), .val (.ref b1), .unset, .unset] [(.ref b1)])) _
    refine XS.iconst X7.here hx rfl (hb hby at_19) ?_
    show Steps p.tables e below (T7.setTop (mkF m 20 #[.val (.int p0), .val (.ref b1), .unset, .unset] [(.int (2 : Int32)), (.ref b1)])) _
    refine st8 _ ?_
    show Steps p.tables e below (T8.setTop (mkF m 23 #[.val (.int p0), .val (.ref b1), .unset, .unset] [(.ref a_QUARANTINE), (.int (2 : Int32)), (.ref b1)])) _
    refine st10 _ ?_
    show Steps p.tables e below (T10.setTop (mkF m 24 #[.val (.int p0), .val (.ref b1), .unset, .unset] [])) _
    refine XS.aloadN X10.here hx rfl (hb hby at_24) rfl rfl ?_
    show Steps p.tables e below (T10.setTop (mkF m 25 #[.val (.int p0), .val (.ref b1), .unset, .unset] [(.ref b1)])) _
    refine XS.iconst X10.here hx rfl (hb hby at_25) ?_
    show Steps p.tables e below (T10.setTop (mkF m 26 #[.val (.int p0), .val (.ref b1), .unset, .unset] [(.int (3 : Int32)), (.ref b1)])) _
    refine st11 _ ?_
    show Steps p.tables e below (T11.setTop (mkF m 29 #[.val (.int p0), .val (.ref b1), .unset, .unset] [(.ref a_SMIME_SIGN), (.int (3 : Int32)), (.ref b1)])) _
    refine st13 _ ?_
    show Steps p.tables e below (T13.setTop (mkF m 30 #[.val (.int p0), .val (.ref b1), .unset, .unset] [])) _
    refine XS.aloadN X13.here hx rfl (hb hby at_30) rfl rfl ?_
    show Steps p.tables e below (T13.setTop (mkF m 31 #[.val (.int p0), .val (.ref b1), .unset, .unset] [(.ref b1)])) _
    refine XS.iconst X13.here hx rfl (hb hby at_31) ?_
    show Steps p.tables e below (T13.setTop (mkF m 32 #[.val (.int p0), .val (.ref b1), .unset, .unset] [(.int (4 : Int32)), (.ref b1)])) _
    refine st14 _ ?_
    show Steps p.tables e below (T14.setTop (mkF m 35 #[.val (.int p0), .val (.ref b1), .unset, .unset] [(.ref a_SMIME_ENCRYPT), (.int (4 : Int32)), (.ref b1)])) _
    refine st16 _ ?_
    show Steps p.tables e below (T16.setTop (mkF m 36 #[.val (.int p0), .val (.ref b1), .unset, .unset] [])) _
    refine XS.aloadN X16.here hx rfl (hb hby at_36) rfl rfl ?_
    show Steps p.tables e below (T16.setTop (mkF m 37 #[.val (.int p0), .val (.ref b1), .unset, .unset] [(.ref b1)])) _
    refine XS.iconst X16.here hx rfl (hb hby at_37) ?_
    show Steps p.tables e below (T16.setTop (mkF m 38 #[.val (.int p0), .val (.ref b1), .unset, .unset] [(.int (5 : Int32)), (.ref b1)])) _
    refine st17 _ ?_
    show Steps p.tables e below (T17.setTop (mkF m 41 #[.val (.int p0), .val (.ref b1), .unset, .unset] [(.ref a_SMIME_SIGN_ENCRYPT), (.int (5 : Int32)), (.ref b1)])) _
    refine st19 _ ?_
    show Steps p.tables e below (T19.setTop (mkF m 42 #[.val (.int p0), .val (.ref b1), .unset, .unset] [])) _
    refine XS.iloadN X19.here hx rfl (hb hby at_42) rfl ?_
    show Steps p.tables e below (T19.setTop (mkF m 43 #[.val (.int p0), .val (.ref b1), .unset, .unset] [(.int p0)])) _
    refine X19.ldcInt hx hown (mvT hZ (hw _ (List.mem_of_getElem? (i := 16) rfl))) (g := (mkF m 43 #[.val (.int p0), .val (.ref b1), .unset, .unset] [(.int p0)])) rfl (hb hby at_43) _ ?_
    show Steps p.tables e below (T19.setTop (mkF m 45 #[.val (.int p0), .val (.ref b1), .unset, .unset] [(.int (2147483647 : Int32)), (.int p0)])) _
    refine XS.iand X19.here hx rfl (hb hby at_45) rfl ?_
    show Steps p.tables e below (T19.setTop (mkF m 46 #[.val (.int p0), .val (.ref b1), .unset, .unset] [(.int (p0 &&& (2147483647 : Int32)))])) _
    refine XS.bipush X19.here hx rfl (hb hby at_46) ?_
    show Steps p.tables e below (T19.setTop (mkF m 48 #[.val (.int p0), .val (.ref b1), .unset, .unset] [(.int (6 : Int32)), (.int (p0 &&& (2147483647 : Int32)))])) _
    refine iremM X19 hx rfl (hb hby at_48) rfl (by decide) ?_
    show Steps p.tables e below (T19.setTop (mkF m 49 #[.val (.int p0), .val (.ref b1), .unset, .unset] [(.int ((p0 &&& (2147483647 : Int32)) % (6 : Int32)))])) _
    rw [hk0]
    show Steps p.tables e below (T19.setTop (mkF m 49 #[.val (.int p0), .val (.ref b1), .unset, .unset] [(.int (4 : Int32))])) _
    refine XS.istoreN X19.here hx rfl (hb hby at_49) rfl (l' := #[.val (.int p0), .val (.ref b1), .val (.int (4 : Int32)), .unset]) rfl ?_
    show Steps p.tables e below (T19.setTop (mkF m 50 #[.val (.int p0), .val (.ref b1), .val (.int (4 : Int32)), .unset] [])) _
    refine XS.iloadN X19.here hx rfl (hb hby at_50) rfl ?_
    show Steps p.tables e below (T19.setTop (mkF m 51 #[.val (.int p0), .val (.ref b1), .val (.int (4 : Int32)), .unset] [(.int (4 : Int32))])) _
    refine XS.iconst X19.here hx rfl (hb hby at_51) ?_
    show Steps p.tables e below (T19.setTop (mkF m 52 #[.val (.int p0), .val (.ref b1), .val (.int (4 : Int32)), .unset] [(.int (1 : Int32)), (.int (4 : Int32))])) _
    refine XS.icmpYes X19.here hx rfl (pc0 := 52) (pc' := 60) rfl (hb hby at_52) rfl (by decide) (by decide) (by decide) ?_
    show Steps p.tables e below (T19.setTop (mkF m 60 #[.val (.int p0), .val (.ref b1), .val (.int (4 : Int32)), .unset] [])) _
    refine XS.iloadN X19.here hx rfl (hb hby at_60) rfl ?_
    show Steps p.tables e below (T19.setTop (mkF m 61 #[.val (.int p0), .val (.ref b1), .val (.int (4 : Int32)), .unset] [(.int (4 : Int32))])) _
    refine XS.iconst X19.here hx rfl (hb hby at_61) ?_
    show Steps p.tables e below (T19.setTop (mkF m 62 #[.val (.int p0), .val (.ref b1), .val (.int (4 : Int32)), .unset] [(.int (2 : Int32)), (.int (4 : Int32))])) _
    refine XS.icmpYes X19.here hx rfl (pc0 := 62) (pc' := 70) rfl (hb hby at_62) rfl (by decide) (by decide) (by decide) ?_
    show Steps p.tables e below (T19.setTop (mkF m 70 #[.val (.int p0), .val (.ref b1), .val (.int (4 : Int32)), .unset] [])) _
    refine XS.iconst X19.here hx rfl (hb hby at_70) ?_
    show Steps p.tables e below (T19.setTop (mkF m 71 #[.val (.int p0), .val (.ref b1), .val (.int (4 : Int32)), .unset] [(.int (1 : Int32))])) _
    refine XS.istoreN X19.here hx rfl (hb hby at_71) rfl (l' := #[.val (.int p0), .val (.ref b1), .val (.int (4 : Int32)), .val (.int (1 : Int32))]) rfl ?_
    show Steps p.tables e below (T19.setTop (mkF m 72 #[.val (.int p0), .val (.ref b1), .val (.int (4 : Int32)), .val (.int (1 : Int32))] [])) _
    refine XS.aloadN X19.here hx rfl (hb hby at_72) rfl rfl ?_
    show Steps p.tables e below (T19.setTop (mkF m 73 #[.val (.int p0), .val (.ref b1), .val (.int (4 : Int32)), .val (.int (1 : Int32))] [(.ref b1)])) _
    refine XS.iloadN X19.here hx rfl (hb hby at_73) rfl ?_
    show Steps p.tables e below (T19.setTop (mkF m 74 #[.val (.int p0), .val (.ref b1), .val (.int (4 : Int32)), .val (.int (1 : Int32))] [(.int (4 : Int32)), (.ref b1)])) _
    refine X19.aaload hx (j := (4 : Int32)) (v := (.ref a_SMIME_ENCRYPT)) (by rw [e19]; exact r20.1) (State.isArrayOf_alike hZ.alike r20.2.1) rfl r20.2.2 i20 y20 (g := (mkF m 74 #[.val (.int p0), .val (.ref b1), .val (.int (4 : Int32)), .val (.int (1 : Int32))] [(.int (4 : Int32)), (.ref b1)])) rfl rfl (hb hby at_74) _ ?_
    show Steps p.tables e below (T19.setTop (mkF m 75 #[.val (.int p0), .val (.ref b1), .val (.int (4 : Int32)), .val (.int (1 : Int32))] [(.ref a_SMIME_ENCRYPT)])) _
    refine st21.trans ?_
    show Steps p.tables e below (T21.setTop (mkF m 78 #[.val (.int p0), .val (.ref b1), .val (.int (4 : Int32)), .val (.int (1 : Int32))] [(.int (1 : Int32))])) _
    refine XS.iloadN X21.here hx rfl (hb hby at_78) rfl ?_
    show Steps p.tables e below (T21.setTop (mkF m 79 #[.val (.int p0), .val (.ref b1), .val (.int (4 : Int32)), .val (.int (1 : Int32))] [(.int (1 : Int32)), (.int (1 : Int32))])) _
    refine XS.icmpNo X21.here hx rfl (hb hby at_79) rfl (by decide) ?_
    show Steps p.tables e below (T21.setTop (mkF m 82 #[.val (.int p0), .val (.ref b1), .val (.int (4 : Int32)), .val (.int (1 : Int32))] [])) _
    refine XS.iconst X21.here hx rfl (hb hby at_82) ?_
    show Steps p.tables e below (T21.setTop (mkF m 83 #[.val (.int p0), .val (.ref b1), .val (.int (4 : Int32)), .val (.int (1 : Int32))] [(.int (1 : Int32))])) _
    refine XS.goto X21.here hx rfl (pc0 := 83) (pc' := 87) rfl (hb hby at_83) (by decide) (by decide) ?_
    show Steps p.tables e below (T21.setTop (mkF m 87 #[.val (.int p0), .val (.ref b1), .val (.int (4 : Int32)), .val (.int (1 : Int32))] [(.int (1 : Int32))])) _
    exact retN X21 hx (t := .boolean) Bd.returns (by simp) (hb hby at_87) hr
  · exact ⟨rfl, N21⟩
set_option maxRecDepth 65536 in
set_option maxHeartbeats 40000000 in
theorem rm1_5 (l : Launch) (Z : State) (a0 : Array Value) (hw : ∀ d ∈ tables_1, d.before a0 Z = true) (ws : List Jvm.Cond) (p0 : Int32) (a_DELIVER a_REJECT a_QUARANTINE a_SMIME_SIGN a_SMIME_ENCRYPT a_SMIME_SIGN_ENCRYPT : Addr) (h0 : Heap) (n0 : Nat) (Z0 : n0 ≤ h0.size) (FF : Facts Z h0 a_DELIVER a_REJECT a_QUARANTINE a_SMIME_SIGN a_SMIME_ENCRYPT a_SMIME_SIGN_ENCRYPT) :
    MetFree l (⟨"com/example/mail_policy_gateway/mailpolicygateway/model/Action", "delivers", "()Z"⟩ : MethodName) (head1 (Jvm.Cond.code (⟨"com/example/mail_policy_gateway/mailpolicygateway/model/Action", "delivers", "()Z"⟩ : MethodName) prog_34_method_6_code 1 (some .boolean) :: ws) ({ frames := 0, cells := 0, slots := 0, locals := 0 } : Room)) (fun a U => a = #[(.ref a_SMIME_SIGN_ENCRYPT)] ∧ Z.Warmed39 U.vm ∧ U.heap = h0) (fun _ _ _ _ _ => True) (fun _ U o U' => ∃ v L, o = .returned v ∧ own_Q (.int (1 : Int32)) h0 n0 v U'.heap L ∧ FrameEnd U o U' L ({ frames := 0, cells := 0, slots := 0, locals := 0 } : Room).cells ({ frames := 0, cells := 0, slots := 0, locals := 0 } : Room).slots) := by
  refine MetFree.of_bodySF (plainFor_of_name pn_1) hisR ?_
  intro p e s m args below meth c s₁ Bd hml0 hP hK
  obtain ⟨rfl, hZ, hh⟩ := hP
  have hx := Bd.exec
  have hby := Bd.bytes
  have hml : c.maxLocals = 1 := hml0
  have hown : s.vm.findClass "com/example/mail_policy_gateway/mailpolicygateway/model/Action" = some m.cls := findClass_of_methodNamed Bd.named
  have X0 : Stand p l e ({ frames := 0, cells := 0, slots := 0, locals := 0 } : Room) s m #[(.ref a_SMIME_SIGN_ENCRYPT)] below meth c s₁ [] 0 0 := Stand.of_body Bd
  have e0 : s₁.heap = h0 := by rw [← hh, Bd.state]; rfl
  have N0 := Fr.nil n0
  have pre0 : ∀ t, Steps p.tables e below (s₁.setTop (mkF m 0 #[.val (.ref a_SMIME_SIGN_ENCRYPT)] [])) t → Steps p.tables e below (s₁.setTop (entryFrame m #[(.ref a_SMIME_SIGN_ENCRYPT)] 1)) t := fun t k => castTop (ef_1 m a_SMIME_SIGN_ENCRYPT) k
  obtain ⟨T1, X1, e1, st1⟩ := getS2 X0 hx hZ hown (host := "") (Or.inl (hw _ (List.mem_of_getElem? (i := 22) rfl))) Via.refl e0 (fx_S_DELIVER FF) (g := (mkF m 1 #[.val (.ref a_SMIME_SIGN_ENCRYPT)] [(.ref a_SMIME_SIGN_ENCRYPT)])) rfl (hb hby d1_1)
  obtain ⟨T2, X2, e2, st2⟩ := getF X1 hx hZ hown (host := "") (Or.inl (hw _ (List.mem_of_getElem? (i := 23) rfl))) Via.refl e1 (fx_F_SMIME_SIGN_ENCRYPT_signs FF) (g := (mkF m 8 #[.val (.ref a_SMIME_SIGN_ENCRYPT)] [(.ref a_SMIME_SIGN_ENCRYPT)])) rfl rfl (hb hby d1_8)
  obtain ⟨fs, hr, hrun, hended, hW, hsame⟩ := X2.leave (v := some (.int (1 : Int32))) (fun h => by rw [Bd.returns] at h; cases h)
  refine ⟨_, _, pre0 _ ?_, hrun, hended, _, _, rfl, ?_, ⟨_, rfl⟩, hW, hsame.mono (by decide) (by decide)⟩
  · show Steps p.tables e below (s₁.setTop (mkF m 0 #[.val (.ref a_SMIME_SIGN_ENCRYPT)] [])) _
    refine XS.aloadN X0.here hx rfl (hb hby d1_0) rfl rfl ?_
    show Steps p.tables e below (s₁.setTop (mkF m 1 #[.val (.ref a_SMIME_SIGN_ENCRYPT)] [(.ref a_SMIME_SIGN_ENCRYPT)])) _
    refine st1 _ ?_
    show Steps p.tables e below (T1.setTop (mkF m 4 #[.val (.ref a_SMIME_SIGN_ENCRYPT)] [(.ref a_DELIVER), (.ref a_SMIME_SIGN_ENCRYPT)])) _
    refine Jvm.RoadKit.acmp (g := (mkF m 4 #[.val (.ref a_SMIME_SIGN_ENCRYPT)] [(.ref a_DELIVER), (.ref a_SMIME_SIGN_ENCRYPT)])) X1 hx rfl rfl rfl (pc0 := 4) (pc' := 7) (same := false) rfl (hb hby d1_4) rfl (decide_eq_false fun q => Fld.ne (fx_F_SMIME_SIGN_ENCRYPT_ordinal FF) (fx_F_DELIVER_ordinal FF) (by decide) (Value.ref.inj q)) (by decide) (by decide) ?_
    show Steps p.tables e below (T1.setTop (mkF m 7 #[.val (.ref a_SMIME_SIGN_ENCRYPT)] [])) _
    refine XS.aloadN X1.here hx rfl (hb hby d1_7) rfl rfl ?_
    show Steps p.tables e below (T1.setTop (mkF m 8 #[.val (.ref a_SMIME_SIGN_ENCRYPT)] [(.ref a_SMIME_SIGN_ENCRYPT)])) _
    refine st2 _ ?_
    show Steps p.tables e below (T2.setTop (mkF m 11 #[.val (.ref a_SMIME_SIGN_ENCRYPT)] [(.int (1 : Int32))])) _
    refine XS.ifYes X2.here hx rfl (pc0 := 11) (pc' := 21) rfl (hb hby d1_11) rfl (by decide) (by decide) (by decide) ?_
    show Steps p.tables e below (T2.setTop (mkF m 21 #[.val (.ref a_SMIME_SIGN_ENCRYPT)] [])) _
    refine XS.iconst X2.here hx rfl (hb hby d1_21) ?_
    show Steps p.tables e below (T2.setTop (mkF m 22 #[.val (.ref a_SMIME_SIGN_ENCRYPT)] [(.int (1 : Int32))])) _
    refine XS.goto X2.here hx rfl (pc0 := 22) (pc' := 26) rfl (hb hby d1_22) (by decide) (by decide) ?_
    show Steps p.tables e below (T2.setTop (mkF m 26 #[.val (.ref a_SMIME_SIGN_ENCRYPT)] [(.int (1 : Int32))])) _
    exact retN X2 hx (t := .boolean) Bd.returns (by simp) (hb hby d1_26) hr
  · show own_Q _ _ _ _ T2.heap _
    exact ⟨rfl, N0, e2⟩
set_option maxRecDepth 65536 in
set_option maxHeartbeats 40000000 in
theorem rm0_5 (l : Launch) (Z : State) (a0 : Array Value) (hw : ∀ d ∈ tables_1, d.before a0 Z = true) (ws : List Jvm.Cond) (p0 : Int32) (a_DELIVER a_REJECT a_QUARANTINE a_SMIME_SIGN a_SMIME_ENCRYPT a_SMIME_SIGN_ENCRYPT : Addr) (h0 : Heap) (n0 : Nat) (Z0 : n0 ≤ h0.size) (FF : Facts Z h0 a_DELIVER a_REJECT a_QUARANTINE a_SMIME_SIGN a_SMIME_ENCRYPT a_SMIME_SIGN_ENCRYPT) (hk0 : ((p0 &&& (2147483647 : Int32)) % (6 : Int32)) = (5 : Int32)) :
    MetFree l x (head1 (Jvm.Cond.code x code maxLocals ret :: ws) room_1) (fun a U => a = #[(.int p0)] ∧ Z.Warmed39 U.vm ∧ U.heap = h0) (fun _ _ _ _ _ => True) (fun _ U o U' => ∃ v L, o = .returned v ∧ (v = some (.int (1 : Int32)) ∧ Fr n0 L) ∧ FrameEnd U o U' L room_1.cells room_1.slots) := by
  refine MetFree.of_bodySF (plainFor_of_name pn_0) hisR ?_
  intro p e s m args below meth c s₁ Bd hml0 hP hK
  obtain ⟨rfl, hZ, hh⟩ := hP
  have hx := Bd.exec
  have hby := Bd.bytes
  have hml : c.maxLocals = 4 := hml0
  have hown : s.vm.findClass "com/example/mail_policy_gateway/mailpolicygateway/model/ActionDeliversPinLaw" = some m.cls := findClass_of_methodNamed Bd.named
  have X0 : Stand p l e room_1 s m #[(.int p0)] below meth c s₁ [] 0 0 := Stand.of_body Bd
  have e0 : s₁.heap = h0 := by rw [← hh, Bd.state]; rfl
  have N0 := Fr.nil n0
  have pre0 : ∀ t, Steps p.tables e below (s₁.setTop (mkF m 0 #[.val (.int p0), .unset, .unset, .unset] [])) t → Steps p.tables e below (s₁.setTop (entryFrame m #[(.int p0)] maxLocals)) t := fun t k => castTop (ef_0 m p0) k
  obtain ⟨T1, h1, k1, X1, e1, E1, A1, O1, st1⟩ := newR X0 hx hZ hown (hw _ (List.mem_of_getElem? (i := 0) rfl)) (hw _ (List.mem_of_getElem? (i := 1) rfl)) e0 (g := (mkF m 2 #[.val (.int p0), .unset, .unset, .unset] [(.int (6 : Int32))])) rfl (hb hby at_2) rfl (by decide) (cap := 6) (by decide) (by decide) (by decide) (by decide)
  obtain ⟨b1, g1⟩ : ∃ z, z = h0.size := ⟨_, rfl⟩
  rw [← g1] at A1 st1
  have V1 : Arv Z h1 b1 k1 (.object "com/example/mail_policy_gateway/mailpolicygateway/model/Action") (6 : Int32) [.null, .null, .null, .null, .null, .null] .null := (Arv.new A1 (by decide)).pad (pad_rep [] .null 6)
  have s_b1 : h0.size ≤ b1 := Nat.le_trans (Nat.le_refl _) (Nat.le_of_eq g1.symm)
  have z1 : h0.size ≤ h1.size := Nat.le_trans (Nat.le_refl _) E1.1
  have FF1 := Facts.ext FF E1
  obtain ⟨T2, X2, e2, st2⟩ := getS2 X1 hx hZ hown (host := "") (Or.inl (hw _ (List.mem_of_getElem? (i := 2) rfl))) Via.refl e1 (fx_S_DELIVER FF1) (g := (mkF m 8 #[.val (.int p0), .val (.ref b1), .unset, .unset] [(.int (0 : Int32)), (.ref b1)])) rfl (hb hby at_8)
  obtain ⟨c3, r3, q3, S3, M3, H3, G3⟩ := V1
  have i3 : ¬ ((0 : Int32) < 0 ∨ c3.slots.size ≤ ((0 : Int32)).toNatClampNeg) := inb_of S3 ⟨by decide, by decide⟩
  obtain ⟨T4, h4, X4, e4, W4, st4⟩ := stR X2 hx hZ e2 r3 (j := (0 : Int32)) i3 rfl (Sto.ofV r3 q3 O1 (Ins.self (fx_E_DELIVER FF1))) (g := (mkF m 11 #[.val (.int p0), .val (.ref b1), .unset, .unset] [(.ref a_DELIVER), (.int (0 : Int32)), (.ref b1)])) rfl rfl (hb hby at_11)
  have V4 : Arv Z h4 b1 k1 (.object "com/example/mail_policy_gateway/mailpolicygateway/model/Action") (6 : Int32) [(.ref a_DELIVER), .null, .null, .null, .null, .null] .null := Arv.set r3 q3 S3 M3 H3 G3 rfl W4 0 rfl (Nat.le_of_ble_eq_true rfl)
  have z4 : h0.size ≤ h4.size := Nat.le_trans z1 (Nat.le_of_eq W4.size.symm)
  have FF4 := Facts.wr FF FF1 W4 s_b1
  have N4 := Fr.snoc X4 N0 (Nat.le_trans Z0 s_b1)
  obtain ⟨T5, X5, e5, st5⟩ := getS2 X4 hx hZ hown (host := "") (Or.inl (hw _ (List.mem_of_getElem? (i := 6) rfl))) Via.refl e4 (fx_S_REJECT FF4) (g := (mkF m 14 #[.val (.int p0), .val (.ref b1), .unset, .unset] [(.int (1 : Int32)), (.ref b1)])) rfl (hb hby at_14)
  obtain ⟨c6, r6, q6, S6, M6, H6, G6⟩ := V4
  have i6 : ¬ ((1 : Int32) < 0 ∨ c6.slots.size ≤ ((1 : Int32)).toNatClampNeg) := inb_of S6 ⟨by decide, by decide⟩
  obtain ⟨T7, h7, X7, e7, W7, st7⟩ := stR X5 hx hZ e5 r6 (j := (1 : Int32)) i6 rfl (Sto.ofV r6 q6 O1 (Ins.self (fx_E_REJECT FF4))) (g := (mkF m 17 #[.val (.int p0), .val (.ref b1), .unset, .unset] [(.ref a_REJECT), (.int (1 : Int32)), (.ref b1)])) rfl rfl (hb hby at_17)
  have V7 : Arv Z h7 b1 k1 (.object "com/example/mail_policy_gateway/mailpolicygateway/model/Action") (6 : Int32) [(.ref a_DELIVER), (.ref a_REJECT), .null, .null, .null, .null] .null := Arv.set r6 q6 S6 M6 H6 G6 rfl W7 1 rfl (Nat.le_of_ble_eq_true rfl)
  have z7 : h0.size ≤ h7.size := Nat.le_trans z4 (Nat.le_of_eq W7.size.symm)
  have FF7 := Facts.wr FF FF4 W7 s_b1
  have N7 := Fr.snoc X7 N4 (Nat.le_trans Z0 s_b1)
  obtain ⟨T8, X8, e8, st8⟩ := getS2 X7 hx hZ hown (host := "") (Or.inl (hw _ (List.mem_of_getElem? (i := 8) rfl))) Via.refl e7 (fx_S_QUARANTINE FF7) (g := (mkF m 20 #[.val (.int p0), .val (.ref b1), .unset, .unset] [(.int (2 : Int32)), (.ref b1)])) rfl (hb hby at_20)
  obtain ⟨c9, r9, q9, S9, M9, H9, G9⟩ := V7
  have i9 : ¬ ((2 : Int32) < 0 ∨ c9.slots.size ≤ ((2 : Int32)).toNatClampNeg) := inb_of S9 ⟨by decide, by decide⟩
  obtain ⟨T10, h10, X10, e10, W10, st10⟩ := stR X8 hx hZ e8 r9 (j := (2 : Int32)) i9 rfl (Sto.ofV r9 q9 O1 (Ins.self (fx_E_QUARANTINE FF7))) (g := (mkF m 23 #[.val (.int p0), .val (.ref b1), .unset, .unset] [(.ref a_QUARANTINE), (.int (2 : Int32)), (.ref b1)])) rfl rfl (hb hby at_23)
  have V10 : Arv Z h10 b1 k1 (.object "com/example/mail_policy_gateway/mailpolicygateway/model/Action") (6 : Int32) [(.ref a_DELIVER), (.ref a_REJECT), (.ref a_QUARANTINE), .null, .null, .null] .null := Arv.set r9 q9 S9 M9 H9 G9 rfl W10 2 rfl (Nat.le_of_ble_eq_true rfl)
  have z10 : h0.size ≤ h10.size := Nat.le_trans z7 (Nat.le_of_eq W10.size.symm)
  have FF10 := Facts.wr FF FF7 W10 s_b1
  have N10 := Fr.snoc X10 N7 (Nat.le_trans Z0 s_b1)
  obtain ⟨T11, X11, e11, st11⟩ := getS2 X10 hx hZ hown (host := "") (Or.inl (hw _ (List.mem_of_getElem? (i := 10) rfl))) Via.refl e10 (fx_S_SMIME_SIGN FF10) (g := (mkF m 26 #[.val (.int p0), .val (.ref b1), .unset, .unset] [(.int (3 : Int32)), (.ref b1)])) rfl (hb hby at_26)
  obtain ⟨c12, r12, q12, S12, M12, H12, G12⟩ := V10
  have i12 : ¬ ((3 : Int32) < 0 ∨ c12.slots.size ≤ ((3 : Int32)).toNatClampNeg) := inb_of S12 ⟨by decide, by decide⟩
  obtain ⟨T13, h13, X13, e13, W13, st13⟩ := stR X11 hx hZ e11 r12 (j := (3 : Int32)) i12 rfl (Sto.ofV r12 q12 O1 (Ins.self (fx_E_SMIME_SIGN FF10))) (g := (mkF m 29 #[.val (.int p0), .val (.ref b1), .unset, .unset] [(.ref a_SMIME_SIGN), (.int (3 : Int32)), (.ref b1)])) rfl rfl (hb hby at_29)
  have V13 : Arv Z h13 b1 k1 (.object "com/example/mail_policy_gateway/mailpolicygateway/model/Action") (6 : Int32) [(.ref a_DELIVER), (.ref a_REJECT), (.ref a_QUARANTINE), (.ref a_SMIME_SIGN), .null, .null] .null := Arv.set r12 q12 S12 M12 H12 G12 rfl W13 3 rfl (Nat.le_of_ble_eq_true rfl)
  have z13 : h0.size ≤ h13.size := Nat.le_trans z10 (Nat.le_of_eq W13.size.symm)
  have FF13 := Facts.wr FF FF10 W13 s_b1
  have N13 := Fr.snoc X13 N10 (Nat.le_trans Z0 s_b1)
  obtain ⟨T14, X14, e14, st14⟩ := getS2 X13 hx hZ hown (host := "") (Or.inl (hw _ (List.mem_of_getElem? (i := 12) rfl))) Via.refl e13 (fx_S_SMIME_ENCRYPT FF13) (g := (mkF m 32 #[.val (.int p0), .val (.ref b1), .unset, .unset] [(.int (4 : Int32)), (.ref b1)])) rfl (hb hby at_32)
  obtain ⟨c15, r15, q15, S15, M15, H15, G15⟩ := V13
  have i15 : ¬ ((4 : Int32) < 0 ∨ c15.slots.size ≤ ((4 : Int32)).toNatClampNeg) := inb_of S15 ⟨by decide, by decide⟩
  obtain ⟨T16, h16, X16, e16, W16, st16⟩ := stR X14 hx hZ e14 r15 (j := (4 : Int32)) i15 rfl (Sto.ofV r15 q15 O1 (Ins.self (fx_E_SMIME_ENCRYPT FF13))) (g := (mkF m 35 #[.val (.int p0), .val (.ref b1), .unset, .unset] [(.ref a_SMIME_ENCRYPT), (.int (4 : Int32)), (.ref b1)])) rfl rfl (hb hby at_35)
  have V16 : Arv Z h16 b1 k1 (.object "com/example/mail_policy_gateway/mailpolicygateway/model/Action") (6 : Int32) [(.ref a_DELIVER), (.ref a_REJECT), (.ref a_QUARANTINE), (.ref a_SMIME_SIGN), (.ref a_SMIME_ENCRYPT), .null] .null := Arv.set r15 q15 S15 M15 H15 G15 rfl W16 4 rfl (Nat.le_of_ble_eq_true rfl)
  have z16 : h0.size ≤ h16.size := Nat.le_trans z13 (Nat.le_of_eq W16.size.symm)
  have FF16 := Facts.wr FF FF13 W16 s_b1
  have N16 := Fr.snoc X16 N13 (Nat.le_trans Z0 s_b1)
  obtain ⟨T17, X17, e17, st17⟩ := getS2 X16 hx hZ hown (host := "") (Or.inl (hw _ (List.mem_of_getElem? (i := 14) rfl))) Via.refl e16 (fx_S_SMIME_SIGN_ENCRYPT FF16) (g := (mkF m 38 #[.val (.int p0), .val (.ref b1), .unset, .unset] [(.int (5 : Int32)), (.ref b1)])) rfl (hb hby at_38)
  obtain ⟨c18, r18, q18, S18, M18, H18, G18⟩ := V16
  have i18 : ¬ ((5 : Int32) < 0 ∨ c18.slots.size ≤ ((5 : Int32)).toNatClampNeg) := inb_of S18 ⟨by decide, by decide⟩
  obtain ⟨T19, h19, X19, e19, W19, st19⟩ := stR X17 hx hZ e17 r18 (j := (5 : Int32)) i18 rfl (Sto.ofV r18 q18 O1 (Ins.self (fx_E_SMIME_SIGN_ENCRYPT FF16))) (g := (mkF m 41 #[.val (.int p0), .val (.ref b1), .unset, .unset] [(.ref a_SMIME_SIGN_ENCRYPT), (.int (5 : Int32)), (.ref b1)])) rfl rfl (hb hby at_41)
  have V19 : Arv Z h19 b1 k1 (.object "com/example/mail_policy_gateway/mailpolicygateway/model/Action") (6 : Int32) [(.ref a_DELIVER), (.ref a_REJECT), (.ref a_QUARANTINE), (.ref a_SMIME_SIGN), (.ref a_SMIME_ENCRYPT), (.ref a_SMIME_SIGN_ENCRYPT)] .null := Arv.set r18 q18 S18 M18 H18 G18 rfl W19 5 rfl (Nat.le_of_ble_eq_true rfl)
  have z19 : h0.size ≤ h19.size := Nat.le_trans z16 (Nat.le_of_eq W19.size.symm)
  have FF19 := Facts.wr FF FF16 W19 s_b1
  have N19 := Fr.snoc X19 N16 (Nat.le_trans Z0 s_b1)
  obtain ⟨c20, r20, -, S20, -, H20, -⟩ := V19
  have i20 : ¬ ((5 : Int32) < 0 ∨ c20.slots.size ≤ ((5 : Int32)).toNatClampNeg) := inb_of S20 ⟨by decide, by decide⟩
  have y20 : c20.slots[((5 : Int32)).toNatClampNeg]? = some (.ref a_SMIME_SIGN_ENCRYPT) := H20 5 (by rw [S20]; decide)
  obtain ⟨cq21, kq21, q21a, q21b, q21c⟩ := isOf hZ e19 (fx_E_SMIME_SIGN_ENCRYPT FF19)
  obtain ⟨_, _, ⟨T21, L21, k21, n21⟩, -, X21, ⟨Lc21, hQ21, l21, y21, z21⟩, st21⟩ := X19.virtualBack hx (y := (⟨"com/example/mail_policy_gateway/mailpolicygateway/model/Action", "delivers", "()Z"⟩ : MethodName)) (z := (⟨"com/example/mail_policy_gateway/mailpolicygateway/model/Action", "delivers", "()Z"⟩ : MethodName)) hown (mvT hZ (hw _ (List.mem_of_getElem? (i := 17) rfl))) (mvT hZ (hw _ (List.mem_of_getElem? (i := 18) rfl))) (notFace_of_selects (args := #[]) (mvT hZ (hw _ (List.mem_of_getElem? (i := 20) rfl)))) (mvT hZ (hw _ (List.mem_of_getElem? (i := 20) rfl))) (mvT hZ (hw _ (List.mem_of_getElem? (i := 19) rfl))) (by decide) (backOf (W := 0) (rm1_5 l Z a0 hw [] p0 a_DELIVER a_REJECT a_QUARANTINE a_SMIME_SIGN a_SMIME_ENCRYPT a_SMIME_SIGN_ENCRYPT h19 n0 (Nat.le_trans Z0 z19) FF19) hZ (hw _ (List.mem_of_getElem? (i := 21) rfl)) (hw _ (List.mem_of_getElem? (i := 3) rfl)) (by decide) (by decide)) q21a q21c (g := (mkF m 75 #[.val (.int p0), .val (.ref b1), .val (.int (5 : Int32)), .val (.int (1 : Int32))] [(.ref a_SMIME_SIGN_ENCRYPT)])) rfl (by rw [hml]; rfl) (Steps.refl _) (argsL := []) (rest := []) (lenOf pd_0 rfl) rfl (by show 2 * 0 + _ ≤ _; exact Nat.le_of_eq rfl) (hb hby at_75) (fun _ _ => ⟨rfl, e19, (by decide : 1 + 0 ≤ _), (by decide : 6 + 0 ≤ _)⟩)
  dsimp only [Pt.U, Pt.locs, Pt.cells, Pt.slots] at X21 l21 y21 z21 st21 hQ21
  subst l21 y21 z21
  obtain ⟨rfl, N21q, e21⟩ := hQ21
  have N21 := Fr.app N19 N21q
  obtain ⟨fs, hr, hrun, hended, hW, hsame⟩ := X21.leave (v := some (.int (1 : Int32))) (fun h => by rw [Bd.returns] at h; cases h)
  refine ⟨_, _, pre0 _ ?_, hrun, hended, _, _, rfl, ?_, ⟨_, rfl⟩, hW, hsame.mono (by decide) (by decide)⟩
  · show Steps p.tables e below (s₁.setTop (mkF m 0 #[.val (.int p0), .unset, .unset, .unset] [])) _
    refine XS.bipush X0.here hx rfl (hb hby at_0) ?_
    show Steps p.tables e below (s₁.setTop (mkF m 2 #[.val (.int p0), .unset, .unset, .unset] [(.int (6 : Int32))])) _
    refine st1 _ ?_
    show Steps p.tables e below (T1.setTop (mkF m 5 #[.val (.int p0), .unset, .unset, .unset] [(.ref b1)])) _
    refine XS.astoreN X1.here hx rfl (hb hby at_5) rfl rfl (l' := #[.val (.int p0), .val (.ref b1), .unset, .unset]) rfl ?_
    show Steps p.tables e below (T1.setTop (mkF m 6 #[.val (.int p0), .val (.ref b1), .unset, .unset] [])) _
    refine XS.aloadN X1.here hx rfl (hb hby at_6) rfl rfl ?_
    show Steps p.tables e below (T1.setTop (mkF m 7 #[.val (.int p0), .val (.ref b1), .unset, .unset] [(.ref b1)])) _
    refine XS.iconst X1.here hx rfl (hb hby at_7) ?_
    show Steps p.tables e below (T1.setTop (mkF m 8 #[.val (.int p0), .val (.ref b1), .unset, .unset] [(.int (0 : Int32)), (.ref b1)])) _
    refine st2 _ ?_
    show Steps p.tables e below (T2.setTop (mkF m 11 #[.val (.int p0), .val (.ref b1), .unset, .unset] [(.ref a_DELIVER), (.int (0 : Int32)), (.ref b1)])) _
    refine st4 _ ?_
    show Steps p.tables e below (T4.setTop (mkF m 12 #[.val (.int p0), .val (.ref b1), .unset, .unset] [])) _
    refine XS.aloadN X4.here hx rfl (hb hby at_12) rfl rfl ?_
    show Steps p.tables e below (T4.setTop (mkF m 13 #[.val (.int p0), .val (.ref b1), .unset, .unset] [(.ref b1)])) _
    refine XS.iconst X4.here hx rfl (hb hby at_13) ?_
    show Steps p.tables e below (T4.setTop (mkF m 14 #[.val (.int p0), .val (.ref b1), .unset, .unset] [(.int (1 : Int32)), (.ref b1)])) _
    refine st5 _ ?_
    show Steps p.tables e below (T5.setTop (mkF m 17 #[.val (.int p0), .val (.ref b1), .unset, .unset] [(.ref a_REJECT), (.int (1 : Int32)), (.ref b1)])) _
    refine st7 _ ?_
    show Steps p.tables e below (T7.setTop (mkF m 18 #[.val (.int p0), .val (.ref b1), .unset, .unset] [])) _
    refine XS.aloadN X7.here hx rfl (hb hby at_18) rfl rfl ?_
    show Steps p.tables e below (T7.setTop (mkF m 19 #[.val (.int p0), .val (.ref b1), .unset, .unset] [(.ref b1)])) _
    refine XS.iconst X7.here hx rfl (hb hby at_19) ?_
    show Steps p.tables e below (T7.setTop (mkF m 20 #[.val (.int p0), .val (.ref b1), .unset, .unset] [(.int (2 : Int32)), (.ref b1)])) _
    refine st8 _ ?_
    show Steps p.tables e below (T8.setTop (mkF m 23 #[.val (.int p0), .val (.ref b1), .unset, .unset] [(.ref a_QUARANTINE), (.int (2 : Int32)), (.ref b1)])) _
    refine st10 _ ?_
    show Steps p.tables e below (T10.setTop (mkF m 24 #[.val (.int p0), .val (.ref b1), .unset, .unset] [])) _
    refine XS.aloadN X10.here hx rfl (hb hby at_24) rfl rfl ?_
    show Steps p.tables e below (T10.setTop (mkF m 25 #[.val (.int p0), .val (.ref b1), .unset, .unset] [(.ref b1)])) _
    refine XS.iconst X10.here hx rfl (hb hby at_25) ?_
    show Steps p.tables e below (T10.setTop (mkF m 26 #[.val (.int p0), .val (.ref b1), .unset, .unset] [(.int (3 : Int32)), (.ref b1)])) _
    refine st11 _ ?_
    show Steps p.tables e below (T11.setTop (mkF m 29 #[.val (.int p0), .val (.ref b1), .unset, .unset] [(.ref a_SMIME_SIGN), (.int (3 : Int32)), (.ref b1)])) _
    refine st13 _ ?_
    show Steps p.tables e below (T13.setTop (mkF m 30 #[.val (.int p0), .val (.ref b1), .unset, .unset] [])) _
    refine XS.aloadN X13.here hx rfl (hb hby at_30) rfl rfl ?_
    show Steps p.tables e below (T13.setTop (mkF m 31 #[.val (.int p0), .val (.ref b1), .unset, .unset] [(.ref b1)])) _
    refine XS.iconst X13.here hx rfl (hb hby at_31) ?_
    show Steps p.tables e below (T13.setTop (mkF m 32 #[.val (.int p0), .val (.ref b1), .unset, .unset] [(.int (4 : Int32)), (.ref b1)])) _
    refine st14 _ ?_
    show Steps p.tables e below (T14.setTop (mkF m 35 #[.val (.int p0), .val (.ref b1), .unset, .unset] [(.ref a_SMIME_ENCRYPT), (.int (4 : Int32)), (.ref b1)])) _
    refine st16 _ ?_
    show Steps p.tables e below (T16.setTop (mkF m 36 #[.val (.int p0), .val (.ref b1), .unset, .unset] [])) _
    refine XS.aloadN X16.here hx rfl (hb hby at_36) rfl rfl ?_
    show Steps p.tables e below (T16.setTop (mkF m 37 #[.val (.int p0), .val (.ref b1), .unset, .unset] [(.ref b1)])) _
    refine XS.iconst X16.here hx rfl (hb hby at_37) ?_
    show Steps p.tables e below (T16.setTop (mkF m 38 #[.val (.int p0), .val (.ref b1), .unset, .unset] [(.int (5 : Int32)), (.ref b1)])) _
    refine st17 _ ?_
    show Steps p.tables e below (T17.setTop (mkF m 41 #[.val (.int p0), .val (.ref b1), .unset, .unset] [(.ref a_SMIME_SIGN_ENCRYPT), (.int (5 : Int32)), (.ref b1)])) _
    refine st19 _ ?_
    show Steps p.tables e below (T19.setTop (mkF m 42 #[.val (.int p0), .val (.ref b1), .unset, .unset] [])) _
    refine XS.iloadN X19.here hx rfl (hb hby at_42) rfl ?_
    show Steps p.tables e below (T19.setTop (mkF m 43 #[.val (.int p0), .val (.ref b1), .unset, .unset] [(.int p0)])) _
    refine X19.ldcInt hx hown (mvT hZ (hw _ (List.mem_of_getElem? (i := 16) rfl))) (g := (mkF m 43 #[.val (.int p0), .val (.ref b1), .unset, .unset] [(.int p0)])) rfl (hb hby at_43) _ ?_
    show Steps p.tables e below (T19.setTop (mkF m 45 #[.val (.int p0), .val (.ref b1), .unset, .unset] [(.int (2147483647 : Int32)), (.int p0)])) _
    refine XS.iand X19.here hx rfl (hb hby at_45) rfl ?_
    show Steps p.tables e below (T19.setTop (mkF m 46 #[.val (.int p0), .val (.ref b1), .unset, .unset] [(.int (p0 &&& (2147483647 : Int32)))])) _
    refine XS.bipush X19.here hx rfl (hb hby at_46) ?_
    show Steps p.tables e below (T19.setTop (mkF m 48 #[.val (.int p0), .val (.ref b1), .unset, .unset] [(.int (6 : Int32)), (.int (p0 &&& (2147483647 : Int32)))])) _
    refine iremM X19 hx rfl (hb hby at_48) rfl (by decide) ?_
    show Steps p.tables e below (T19.setTop (mkF m 49 #[.val (.int p0), .val (.ref b1), .unset, .unset] [(.int ((p0 &&& (2147483647 : Int32)) % (6 : Int32)))])) _
    rw [hk0]
    show Steps p.tables e below (T19.setTop (mkF m 49 #[.val (.int p0), .val (.ref b1), .unset, .unset] [(.int (5 : Int32))])) _
    refine XS.istoreN X19.here hx rfl (hb hby at_49) rfl (l' := #[.val (.int p0), .val (.ref b1), .val (.int (5 : Int32)), .unset]) rfl ?_
    show Steps p.tables e below (T19.setTop (mkF m 50 #[.val (.int p0), .val (.ref b1), .val (.int (5 : Int32)), .unset] [])) _
    refine XS.iloadN X19.here hx rfl (hb hby at_50) rfl ?_
    show Steps p.tables e below (T19.setTop (mkF m 51 #[.val (.int p0), .val (.ref b1), .val (.int (5 : Int32)), .unset] [(.int (5 : Int32))])) _
    refine XS.iconst X19.here hx rfl (hb hby at_51) ?_
    show Steps p.tables e below (T19.setTop (mkF m 52 #[.val (.int p0), .val (.ref b1), .val (.int (5 : Int32)), .unset] [(.int (1 : Int32)), (.int (5 : Int32))])) _
    refine XS.icmpYes X19.here hx rfl (pc0 := 52) (pc' := 60) rfl (hb hby at_52) rfl (by decide) (by decide) (by decide) ?_
    show Steps p.tables e below (T19.setTop (mkF m 60 #[.val (.int p0), .val (.ref b1), .val (.int (5 : Int32)), .unset] [])) _
    refine XS.iloadN X19.here hx rfl (hb hby at_60) rfl ?_
    show Steps p.tables e below (T19.setTop (mkF m 61 #[.val (.int p0), .val (.ref b1), .val (.int (5 : Int32)), .unset] [(.int (5 : Int32))])) _
    refine XS.iconst X19.here hx rfl (hb hby at_61) ?_
    show Steps p.tables e below (T19.setTop (mkF m 62 #[.val (.int p0), .val (.ref b1), .val (.int (5 : Int32)), .unset] [(.int (2 : Int32)), (.int (5 : Int32))])) _
    refine XS.icmpYes X19.here hx rfl (pc0 := 62) (pc' := 70) rfl (hb hby at_62) rfl (by decide) (by decide) (by decide) ?_
    show Steps p.tables e below (T19.setTop (mkF m 70 #[.val (.int p0), .val (.ref b1), .val (.int (5 : Int32)), .unset] [])) _
    refine XS.iconst X19.here hx rfl (hb hby at_70) ?_
    show Steps p.tables e below (T19.setTop (mkF m 71 #[.val (.int p0), .val (.ref b1), .val (.int (5 : Int32)), .unset] [(.int (1 : Int32))])) _
    refine XS.istoreN X19.here hx rfl (hb hby at_71) rfl (l' := #[.val (.int p0), .val (.ref b1), .val (.int (5 : Int32)), .val (.int (1 : Int32))]) rfl ?_
    show Steps p.tables e below (T19.setTop (mkF m 72 #[.val (.int p0), .val (.ref b1), .val (.int (5 : Int32)), .val (.int (1 : Int32))] [])) _
    refine XS.aloadN X19.here hx rfl (hb hby at_72) rfl rfl ?_
    show Steps p.tables e below (T19.setTop (mkF m 73 #[.val (.int p0), .val (.ref b1), .val (.int (5 : Int32)), .val (.int (1 : Int32))] [(.ref b1)])) _
    refine XS.iloadN X19.here hx rfl (hb hby at_73) rfl ?_
    show Steps p.tables e below (T19.setTop (mkF m 74 #[.val (.int p0), .val (.ref b1), .val (.int (5 : Int32)), .val (.int (1 : Int32))] [(.int (5 : Int32)), (.ref b1)])) _
    refine X19.aaload hx (j := (5 : Int32)) (v := (.ref a_SMIME_SIGN_ENCRYPT)) (by rw [e19]; exact r20.1) (State.isArrayOf_alike hZ.alike r20.2.1) rfl r20.2.2 i20 y20 (g := (mkF m 74 #[.val (.int p0), .val (.ref b1), .val (.int (5 : Int32)), .val (.int (1 : Int32))] [(.int (5 : Int32)), (.ref b1)])) rfl rfl (hb hby at_74) _ ?_
    show Steps p.tables e below (T19.setTop (mkF m 75 #[.val (.int p0), .val (.ref b1), .val (.int (5 : Int32)), .val (.int (1 : Int32))] [(.ref a_SMIME_SIGN_ENCRYPT)])) _
    refine st21.trans ?_
    show Steps p.tables e below (T21.setTop (mkF m 78 #[.val (.int p0), .val (.ref b1), .val (.int (5 : Int32)), .val (.int (1 : Int32))] [(.int (1 : Int32))])) _
    refine XS.iloadN X21.here hx rfl (hb hby at_78) rfl ?_
    show Steps p.tables e below (T21.setTop (mkF m 79 #[.val (.int p0), .val (.ref b1), .val (.int (5 : Int32)), .val (.int (1 : Int32))] [(.int (1 : Int32)), (.int (1 : Int32))])) _
    refine XS.icmpNo X21.here hx rfl (hb hby at_79) rfl (by decide) ?_
    show Steps p.tables e below (T21.setTop (mkF m 82 #[.val (.int p0), .val (.ref b1), .val (.int (5 : Int32)), .val (.int (1 : Int32))] [])) _
    refine XS.iconst X21.here hx rfl (hb hby at_82) ?_
    show Steps p.tables e below (T21.setTop (mkF m 83 #[.val (.int p0), .val (.ref b1), .val (.int (5 : Int32)), .val (.int (1 : Int32))] [(.int (1 : Int32))])) _
    refine XS.goto X21.here hx rfl (pc0 := 83) (pc' := 87) rfl (hb hby at_83) (by decide) (by decide) ?_
    show Steps p.tables e below (T21.setTop (mkF m 87 #[.val (.int p0), .val (.ref b1), .val (.int (5 : Int32)), .val (.int (1 : Int32))] [(.int (1 : Int32))])) _
    exact retN X21 hx (t := .boolean) Bd.returns (by simp) (hb hby at_87) hr
  · exact ⟨rfl, N21⟩
theorem rm0 (l : Launch) (Z : State) (a0 : Array Value) (hw : ∀ d ∈ tables_1, d.before a0 Z = true) (ws : List Jvm.Cond) (p0 : Int32) (a_DELIVER a_REJECT a_QUARANTINE a_SMIME_SIGN a_SMIME_ENCRYPT a_SMIME_SIGN_ENCRYPT : Addr) (h0 : Heap) (n0 : Nat) (Z0 : n0 ≤ h0.size) (FF : Facts Z h0 a_DELIVER a_REJECT a_QUARANTINE a_SMIME_SIGN a_SMIME_ENCRYPT a_SMIME_SIGN_ENCRYPT) :
    MetFree l x (head1 (Jvm.Cond.code x code maxLocals ret :: ws) room_1) (fun a U => a = #[(.int p0)] ∧ Z.Warmed39 U.vm ∧ U.heap = h0) (fun _ _ _ _ _ => True) (fun _ U o U' => ∃ v L, o = .returned v ∧ (v = some (.int (1 : Int32)) ∧ Fr n0 L) ∧ FrameEnd U o U' L room_1.cells room_1.slots) := by
  rcases own_split0 p0 with hk0 | hk0 | hk0 | hk0 | hk0 | hk0
  · exact rm0_0 l Z a0 hw ws p0 a_DELIVER a_REJECT a_QUARANTINE a_SMIME_SIGN a_SMIME_ENCRYPT a_SMIME_SIGN_ENCRYPT h0 n0 Z0 FF hk0
  · exact rm0_1 l Z a0 hw ws p0 a_DELIVER a_REJECT a_QUARANTINE a_SMIME_SIGN a_SMIME_ENCRYPT a_SMIME_SIGN_ENCRYPT h0 n0 Z0 FF hk0
  · exact rm0_2 l Z a0 hw ws p0 a_DELIVER a_REJECT a_QUARANTINE a_SMIME_SIGN a_SMIME_ENCRYPT a_SMIME_SIGN_ENCRYPT h0 n0 Z0 FF hk0
  · exact rm0_3 l Z a0 hw ws p0 a_DELIVER a_REJECT a_QUARANTINE a_SMIME_SIGN a_SMIME_ENCRYPT a_SMIME_SIGN_ENCRYPT h0 n0 Z0 FF hk0
  · exact rm0_4 l Z a0 hw ws p0 a_DELIVER a_REJECT a_QUARANTINE a_SMIME_SIGN a_SMIME_ENCRYPT a_SMIME_SIGN_ENCRYPT h0 n0 Z0 FF hk0
  · exact rm0_5 l Z a0 hw ws p0 a_DELIVER a_REJECT a_QUARANTINE a_SMIME_SIGN a_SMIME_ENCRYPT a_SMIME_SIGN_ENCRYPT h0 n0 Z0 FF hk0
set_option maxRecDepth 65536 in
set_option maxHeartbeats 40000000 in
theorem comes_1 {Post : Tables → Env → Array Value → State → Outcome → State → Prop} (hpost : ∀ tb e args s v u, (limb_1_1.after args s (.returned v) u = true ∧ limb_1_2.after args s (.returned v) u = true ∧ True) → FrameEnd s (.returned v) u (Jvm.fieldLocs frame_1_writes args s ++ Jvm.arrayLocs frame_1_arrays args s ++ Jvm.staticLocs frame_1_statics s) 16 128 → Post tb e args s (.returned v) u) :
    ArmFor flags0 classFile x code maxLocals ret World_1 tables_1 room_1 Calls_1 rest_1 Pre_1 Post := by
  intro l hfl _ _ p e ha hc hk s m args below hf hA hF happ hP
  obtain ⟨hcalls, hrest, hpre⟩ := hP
  obtain ⟨-, -, -, hnamed, -, -, -, hat⟩ := (Spec.applies_iff hf).mp happ
  obtain ⟨hg, hn⟩ := and_e (Cond.before_iff.mp (show (Jvm.Cond.and given_1 narrow_1).before args s = true from hpre))
  obtain ⟨gc, gr0⟩ := and_e hg
  obtain ⟨w0, rfl⟩ : ∃ w0 : Value, args = #[w0] := by
    have hs : args.size = 1 := by simpa [Cond.value, given_1] using gc
    obtain ⟨L⟩ := args
    match L, hs with
    | [w0], _ => exact ⟨w0, rfl⟩
  have hw := fun d (hd : d ∈ tables_1) => atoms_spec (ws := Jvm.Cond.code x code maxLocals ret :: tables_1) hat d (List.mem_cons_of_mem _ hd)
  obtain ⟨i0, ei0⟩ := is_v gr0
  obtain rfl : w0 = (.int i0) := Option.some.inj ei0
  obtain ⟨na1, nb1⟩ := and_e hn
  obtain ⟨na2, nb2⟩ := and_e nb1
  obtain ⟨na3, nb3⟩ := and_e nb2
  obtain ⟨na4, nb4⟩ := and_e nb3
  obtain ⟨na5, nb5⟩ := and_e nb4
  obtain ⟨na6, nb6⟩ := and_e nb5
  obtain ⟨na7, nb7⟩ := and_e nb6
  obtain ⟨na8, nb8⟩ := and_e nb7
  obtain ⟨na9, nb9⟩ := and_e nb8
  obtain ⟨na10, nb10⟩ := and_e nb9
  obtain ⟨na11, nb11⟩ := and_e nb10
  obtain ⟨na12, nb12⟩ := and_e nb11
  obtain ⟨na13, nb13⟩ := and_e nb12
  obtain ⟨na14, nb14⟩ := and_e nb13
  obtain ⟨na15, nb15⟩ := and_e nb14
  obtain ⟨na16, nb16⟩ := and_e nb15
  obtain ⟨na17, nb17⟩ := and_e nb16
  obtain ⟨na18, nb18⟩ := and_e nb17
  obtain ⟨na19, nb19⟩ := and_e nb18
  obtain ⟨na20, nb20⟩ := and_e nb19
  obtain ⟨na21, nb21⟩ := and_e nb20
  obtain ⟨na22, nb22⟩ := and_e nb21
  obtain ⟨na23, nb23⟩ := and_e nb22
  obtain ⟨a_DELIVER, ev_a_DELIVER⟩ := exa_v na1
  obtain ⟨a_REJECT, ev_a_REJECT⟩ := exa_v na2
  obtain ⟨a_QUARANTINE, ev_a_QUARANTINE⟩ := exa_v na3
  obtain ⟨a_SMIME_SIGN, ev_a_SMIME_SIGN⟩ := exa_v na4
  obtain ⟨a_SMIME_ENCRYPT, ev_a_SMIME_ENCRYPT⟩ := exa_v na5
  obtain ⟨a_SMIME_SIGN_ENCRYPT, ev_a_SMIME_SIGN_ENCRYPT⟩ := exa_v na6
  have FF : Facts s s.heap a_DELIVER a_REJECT a_QUARANTINE a_SMIME_SIGN a_SMIME_ENCRYPT a_SMIME_SIGN_ENCRYPT := ⟨Sta.start ev_a_DELIVER (Or.inr ⟨(hw _ (List.mem_of_getElem? (i := 3) rfl)), (hw _ (List.mem_of_getElem? (i := 4) rfl))⟩), Exa.start ev_a_DELIVER na1, Sta.start ev_a_REJECT (Or.inr ⟨(hw _ (List.mem_of_getElem? (i := 3) rfl)), (hw _ (List.mem_of_getElem? (i := 7) rfl))⟩), Exa.start ev_a_REJECT na2, Sta.start ev_a_QUARANTINE (Or.inr ⟨(hw _ (List.mem_of_getElem? (i := 3) rfl)), (hw _ (List.mem_of_getElem? (i := 9) rfl))⟩), Exa.start ev_a_QUARANTINE na3, Sta.start ev_a_SMIME_SIGN (Or.inr ⟨(hw _ (List.mem_of_getElem? (i := 3) rfl)), (hw _ (List.mem_of_getElem? (i := 11) rfl))⟩), Exa.start ev_a_SMIME_SIGN na4, Sta.start ev_a_SMIME_ENCRYPT (Or.inr ⟨(hw _ (List.mem_of_getElem? (i := 3) rfl)), (hw _ (List.mem_of_getElem? (i := 13) rfl))⟩), Exa.start ev_a_SMIME_ENCRYPT na5, Sta.start ev_a_SMIME_SIGN_ENCRYPT (Or.inr ⟨(hw _ (List.mem_of_getElem? (i := 3) rfl)), (hw _ (List.mem_of_getElem? (i := 15) rfl))⟩), Exa.start ev_a_SMIME_SIGN_ENCRYPT na6, Fld.start ((fld_at ev_a_SMIME_SIGN).symm.trans (own_eqi na7)), Fld.start ((fld_at ev_a_DELIVER).symm.trans (own_eqi na8)), Fld.start ((fld_at ev_a_SMIME_SIGN).symm.trans (own_eqi na9)), Fld.start ((fld_at ev_a_QUARANTINE).symm.trans (own_eqi na10)), Fld.start ((fld_at ev_a_QUARANTINE).symm.trans (own_eqi na11)), Fld.start ((fld_at ev_a_QUARANTINE).symm.trans (own_eqi na12)), Fld.start ((fld_at ev_a_REJECT).symm.trans (own_eqi na13)), Fld.start ((fld_at ev_a_REJECT).symm.trans (own_eqi na14)), Fld.start ((fld_at ev_a_REJECT).symm.trans (own_eqi na15)), Fld.start ((fld_at ev_a_SMIME_SIGN_ENCRYPT).symm.trans (own_eqi na16)), Fld.start ((fld_at ev_a_SMIME_SIGN_ENCRYPT).symm.trans (own_eqi na17)), Fld.start ((fld_at ev_a_SMIME_ENCRYPT).symm.trans (own_eqi na18)), Fld.start ((fld_at ev_a_SMIME_ENCRYPT).symm.trans (own_eqi na19)), Fld.start ((fld_at ev_a_SMIME_ENCRYPT).symm.trans (own_eqi na20)), Fld.start ((fld_at ev_a_DELIVER).symm.trans (own_eqi na21)), Fld.start ((fld_at ev_a_DELIVER).symm.trans (own_eqi na22)), Fld.start ((fld_at ev_a_SMIME_SIGN).symm.trans (own_eqi na23)), Fld.start ((fld_at ev_a_SMIME_SIGN_ENCRYPT).symm.trans (own_eqi nb23))⟩
  obtain ⟨n, o, h1, h2, h3, _, L, rfl, ⟨rfl, N⟩, hq⟩ := rm0 l s _ hw tables_1 i0 a_DELIVER a_REJECT a_QUARANTINE a_SMIME_SIGN a_SMIME_ENCRYPT a_SMIME_SIGN_ENCRYPT s.heap s.heap.size (Nat.le_refl _) FF p e ha hc hk s m _ below hf ((Spec.applies_iff_loose hf).mp happ).1 ⟨rfl, State.Warmed39.refl s, rfl⟩ trivial
  refine ⟨n, _, h1, h2, h3, hpost _ _ _ _ _ _ ⟨Cond.after_iff.mpr rfl, Cond.after_iff.mpr (eq_i res_at (Term.int_eval (1)) rfl), trivial⟩ ⟨hq.1, hq.2.1, (hq.2.2.sift fun y hy => Or.inr (N y hy)).mono (by decide) (by decide)⟩⟩
theorem main_1_1 : Claimed_1_1 := comes_1 fun _ _ _ _ _ _ h hF => ⟨h.1, hF⟩
theorem main_1_2 : Claimed_1_2 := comes_1 fun _ _ _ _ _ _ h hF => ⟨h.2.1, hF⟩
end Jvm.Pilot.@@N@@
namespace Jvm.Pilot.@@N@@
open Jvm Jvm.ClassFile Sem Op Lib Jvm.Free Jvm.Stand Jvm.Pilot.@@N@@.Jvm.D
/-! MADE BY PROGRAM (witnessworld.py) out of the Statement's table words and the real class files: 13 classes; the members and pool entries that the words name. The judged class is class 1, her method 1. -/
namespace start1
open Jvm.ClassFile
def u (s : String) : CpInfo := .utf8 (stringToUtf16 s)
/-- a pool by its gaps: so many unusable entries, then the entry; so many at the end -/
def gap : Nat → List CpInfo → List CpInfo
  | 0, r => r
  | n + 1, r => .unusable :: gap n r
def poolList (es : List (Nat × CpInfo)) (last : Nat) : List CpInfo := es.foldr (fun e r => gap e.1 (e.2 :: r)) (gap last [])
def pool (es : List (Nat × CpInfo)) (last : Nat) : Array CpInfo := ⟨poolList es last⟩
def fileOf (pool : Array CpInfo) (this : Nat) (attrs : Array Attribute := #[]) (ms : Array MethodInfo := #[]) (fl : Nat := 33) (sup : Nat := 0) (ifs : Array Nat := #[]) (fds : Array FieldInfo := #[]) : ClassFile where
  minorVersion := 0
  majorVersion := 65
  constantPool := pool
  accessFlags := fl
  thisClass := this
  superClass := sup
  interfaces := ifs
  fields := fds
  methods := ms
  attributes := attrs
def plain (name : String) (sup : Option ClassId) : Class where
  name := name
  kind := .ordinary
  loader := none
  accessFlags := 33
  super := sup
  interfaces := #[]
  cf := none
  fields := #[]
  methods := #[]
  instanceTypes := #[]
  staticTypes := #[]
  resolved := #[]
  callSites := []
  init := .initialized
  statics := none
  mirror := none

def pool0 : Array CpInfo := pool [(5, u "<init>"), (0, u "()V"), (1, .class_ 10), (1, u "java/lang/Object")] 113

def k0m0 : Method := { name := "<init>", desc := "()V", sig := { parameters := [], returnType := none }, accessFlags := 1, code := none }
/-- java/lang/Object -/
def k0 : Class := { plain "java/lang/Object" none with
  accessFlags := 33
  interfaces := #[]
  cf := some (fileOf pool0 8 #[] #[{ accessFlags := 1, nameIndex := 5, descriptorIndex := 6, attributes := #[] }] 33 0 #[] #[])
  fields := #[]
  methods := #[k0m0]
  instanceTypes := #[]
  staticTypes := #[]
  resolved := Array.replicate 124 none
  statics := none }

def pool1 : Array CpInfo := pool [(2, .class_ 4), (1, u "java/lang/Object"), (0, u "<init>"), (0, u "()V"), (0, .class_ 8), (0, u "com/example/mail_policy_gateway/mailpolicygateway/model/Action"), (0, .fieldref 7 10), (0, .nameAndType 11 12), (0, u "DELIVER"), (0, u "Lcom/example/mail_policy_gateway/mailpolicygateway/model/Action;"), (0, .fieldref 7 14), (0, .nameAndType 15 12), (0, u "REJECT"), (0, .fieldref 7 17), (0, .nameAndType 18 12), (0, u "QUARANTINE"), (0, .fieldref 7 20), (0, .nameAndType 21 12), (0, u "SMIME_SIGN"), (0, .fieldref 7 23), (0, .nameAndType 24 12), (0, u "SMIME_ENCRYPT"), (0, .fieldref 7 26), (0, .nameAndType 27 12), (0, u "SMIME_SIGN_ENCRYPT"), (0, .integer 2147483647), (0, .methodref 7 30), (0, .nameAndType 31 32), (0, u "delivers"), (0, u "()Z"), (0, .class_ 34), (0, u "com/example/mail_policy_gateway/mailpolicygateway/model/ActionDeliversPinLaw"), (2, u "law"), (0, u "(I)Z")] 5

def k1m0 : Method := { name := "<init>", desc := "()V", sig := { parameters := [], returnType := none }, accessFlags := 1, code := none }
def k1c1 : Code := { maxStack := 3, maxLocals := 4, code := code, exceptionTable := #[], attributes := #[] }
def k1m1 : Method := { name := "law", desc := "(I)Z", sig := { parameters := [.int], returnType := some .boolean }, accessFlags := 9, code := some k1c1 }
/-- com/example/mail_policy_gateway/mailpolicygateway/model/ActionDeliversPinLaw -/
def k1 : Class := { plain "com/example/mail_policy_gateway/mailpolicygateway/model/ActionDeliversPinLaw" (some 0) with
  accessFlags := 49
  interfaces := #[]
  cf := some (fileOf pool1 33 #[] #[{ accessFlags := 1, nameIndex := 5, descriptorIndex := 6, attributes := #[] }, { accessFlags := 9, nameIndex := 37, descriptorIndex := 38, attributes := #[] }] 49 2 #[] #[])
  fields := #[]
  methods := #[k1m0, k1m1]
  instanceTypes := #[]
  staticTypes := #[]
  resolved := Array.replicate 44 none
  statics := none }

def pool2 : Array CpInfo := pool [(1, .class_ 2), (0, u "java/lang/constant/Constable"), (0, .class_ 4), (0, u "java/lang/Object")] 6

/-- java/lang/constant/Constable -/
def k2 : Class := { plain "java/lang/constant/Constable" (some 0) with
  accessFlags := 1537
  interfaces := #[]
  cf := some (fileOf pool2 1 #[] #[] 1537 3 #[] #[])
  fields := #[]
  methods := #[]
  instanceTypes := #[]
  staticTypes := #[]
  resolved := Array.replicate 11 none
  statics := none }

def pool3 : Array CpInfo := pool [(1, .class_ 2), (0, u "java/lang/Comparable"), (0, .class_ 4), (0, u "java/lang/Object")] 7

/-- java/lang/Comparable -/
def k3 : Class := { plain "java/lang/Comparable" (some 0) with
  accessFlags := 1537
  interfaces := #[]
  cf := some (fileOf pool3 1 #[] #[] 1537 3 #[] #[])
  fields := #[]
  methods := #[]
  instanceTypes := #[]
  staticTypes := #[]
  resolved := Array.replicate 12 none
  statics := none }

def pool4 : Array CpInfo := pool [(1, .class_ 2), (0, u "java/io/Serializable"), (0, .class_ 4), (0, u "java/lang/Object")] 2

/-- java/io/Serializable -/
def k4 : Class := { plain "java/io/Serializable" (some 0) with
  accessFlags := 1537
  interfaces := #[]
  cf := some (fileOf pool4 1 #[] #[] 1537 3 #[] #[])
  fields := #[]
  methods := #[]
  instanceTypes := #[]
  staticTypes := #[]
  resolved := Array.replicate 7 none
  statics := none }

def pool5 : Array CpInfo := pool [(2, .class_ 4), (1, u "java/lang/Enum"), (0, u "name"), (0, u "Ljava/lang/String;"), (2, u "ordinal"), (0, u "I"), (1, .class_ 14), (1, u "java/lang/Object"), (4, u "hash"), (86, .class_ 108), (1, u "java/lang/Enum$EnumDesc"), (2, .class_ 112), (0, u "java/lang/constant/Constable"), (0, .class_ 114), (0, u "java/lang/Comparable"), (0, .class_ 116), (0, u "java/io/Serializable")] 87

/-- java/lang/Enum -/
def k5 : Class := { plain "java/lang/Enum" (some 0) with
  accessFlags := 1057
  interfaces := #[2, 3, 4]
  cf := some (fileOf pool5 2 #[.nestMembers #[106]] #[] 1057 12 #[111, 113, 115] #[{ accessFlags := 18, nameIndex := 5, descriptorIndex := 6, attributes := #[] }, { accessFlags := 18, nameIndex := 9, descriptorIndex := 10, attributes := #[] }, { accessFlags := 2, nameIndex := 19, descriptorIndex := 10, attributes := #[] }])
  fields := #[{ name := "name", type := (.object "java/lang/String"), accessFlags := 18, slot := 0, constantValue := 0 }, { name := "ordinal", type := .int, accessFlags := 18, slot := 1, constantValue := 0 }, { name := "hash", type := .int, accessFlags := 2, slot := 2, constantValue := 0 }]
  methods := #[]
  instanceTypes := #[(.object "java/lang/String"), .int, .int]
  staticTypes := #[]
  resolved := Array.replicate 204 none
  statics := none }

def pool6 : Array CpInfo := pool [(1, .class_ 2), (0, u "com/example/mail_policy_gateway/mailpolicygateway/model/Action"), (0, .fieldref 1 4), (0, .nameAndType 5 6), (0, u "DELIVER"), (0, u "Lcom/example/mail_policy_gateway/mailpolicygateway/model/Action;"), (2, u "REJECT"), (2, u "QUARANTINE"), (2, u "SMIME_SIGN"), (2, u "SMIME_ENCRYPT"), (2, u "SMIME_SIGN_ENCRYPT"), (2, u "$VALUES"), (0, u "[Lcom/example/mail_policy_gateway/mailpolicygateway/model/Action;"), (6, .class_ 34), (1, u "java/lang/Enum"), (8, u "word"), (0, u "Ljava/lang/String;"), (0, .fieldref 1 46), (0, .nameAndType 47 48), (0, u "signs"), (0, u "Z"), (0, .fieldref 1 50), (0, .nameAndType 51 48), (0, u "encrypts"), (34, u "()Z"), (1, u "delivers")] 5

def k6c0 : Code := { maxStack := 2, maxLocals := 1, code := prog_34_method_6_code, exceptionTable := #[], attributes := #[] }
def k6m0 : Method := { name := "delivers", desc := "()Z", sig := { parameters := [], returnType := some .boolean }, accessFlags := 1, code := some k6c0 }
/-- com/example/mail_policy_gateway/mailpolicygateway/model/Action -/
def k6 : Class := { plain "com/example/mail_policy_gateway/mailpolicygateway/model/Action" (some 5) with
  accessFlags := 16433
  interfaces := #[]
  cf := some (fileOf pool6 1 #[] #[{ accessFlags := 1, nameIndex := 88, descriptorIndex := 86, attributes := #[] }] 16433 32 #[] #[{ accessFlags := 16409, nameIndex := 5, descriptorIndex := 6, attributes := #[] }, { accessFlags := 16409, nameIndex := 9, descriptorIndex := 6, attributes := #[] }, { accessFlags := 16409, nameIndex := 12, descriptorIndex := 6, attributes := #[] }, { accessFlags := 16409, nameIndex := 15, descriptorIndex := 6, attributes := #[] }, { accessFlags := 16409, nameIndex := 18, descriptorIndex := 6, attributes := #[] }, { accessFlags := 16409, nameIndex := 21, descriptorIndex := 6, attributes := #[] }, { accessFlags := 18, nameIndex := 43, descriptorIndex := 44, attributes := #[] }, { accessFlags := 18, nameIndex := 47, descriptorIndex := 48, attributes := #[] }, { accessFlags := 18, nameIndex := 51, descriptorIndex := 48, attributes := #[] }, { accessFlags := 4122, nameIndex := 24, descriptorIndex := 25, attributes := #[] }])
  fields := #[{ name := "DELIVER", type := (.object "com/example/mail_policy_gateway/mailpolicygateway/model/Action"), accessFlags := 16409, slot := 0, constantValue := 0 }, { name := "REJECT", type := (.object "com/example/mail_policy_gateway/mailpolicygateway/model/Action"), accessFlags := 16409, slot := 1, constantValue := 0 }, { name := "QUARANTINE", type := (.object "com/example/mail_policy_gateway/mailpolicygateway/model/Action"), accessFlags := 16409, slot := 2, constantValue := 0 }, { name := "SMIME_SIGN", type := (.object "com/example/mail_policy_gateway/mailpolicygateway/model/Action"), accessFlags := 16409, slot := 3, constantValue := 0 }, { name := "SMIME_ENCRYPT", type := (.object "com/example/mail_policy_gateway/mailpolicygateway/model/Action"), accessFlags := 16409, slot := 4, constantValue := 0 }, { name := "SMIME_SIGN_ENCRYPT", type := (.object "com/example/mail_policy_gateway/mailpolicygateway/model/Action"), accessFlags := 16409, slot := 5, constantValue := 0 }, { name := "word", type := (.object "java/lang/String"), accessFlags := 18, slot := 3, constantValue := 0 }, { name := "signs", type := .boolean, accessFlags := 18, slot := 4, constantValue := 0 }, { name := "encrypts", type := .boolean, accessFlags := 18, slot := 5, constantValue := 0 }, { name := "$VALUES", type := (.array (.object "com/example/mail_policy_gateway/mailpolicygateway/model/Action")), accessFlags := 4122, slot := 6, constantValue := 0 }]
  methods := #[k6m0]
  instanceTypes := #[(.object "java/lang/String"), .int, .int, (.object "java/lang/String"), .boolean, .boolean]
  staticTypes := #[(.object "com/example/mail_policy_gateway/mailpolicygateway/model/Action"), (.object "com/example/mail_policy_gateway/mailpolicygateway/model/Action"), (.object "com/example/mail_policy_gateway/mailpolicygateway/model/Action"), (.object "com/example/mail_policy_gateway/mailpolicygateway/model/Action"), (.object "com/example/mail_policy_gateway/mailpolicygateway/model/Action"), (.object "com/example/mail_policy_gateway/mailpolicygateway/model/Action"), (.array (.object "com/example/mail_policy_gateway/mailpolicygateway/model/Action"))]
  resolved := Array.replicate 94 none
  statics := some 0 }

def pool7 : Array CpInfo := pool [(1, u "java/lang/Cloneable"), (0, .class_ 1), (0, u "java/lang/Object"), (0, .class_ 3)] 3

/-- java/lang/Cloneable -/
def k7 : Class := { plain "java/lang/Cloneable" (some 0) with
  accessFlags := 1537
  interfaces := #[]
  cf := some (fileOf pool7 2 #[] #[] 1537 4 #[] #[])
  fields := #[]
  methods := #[]
  instanceTypes := #[]
  staticTypes := #[]
  resolved := Array.replicate 8 none
  statics := none }

/-- the primitive byte -/
def k8 : Class := { plain "byte" none with kind := .primitive 'B', accessFlags := 0x411 }
/-- [B -/
def k9 : Class := { plain "[B" (some 0) with kind := .array 8 .byte, interfaces := #[7, 4], accessFlags := 1041 }

/-- the primitive int -/
def k10 : Class := { plain "int" none with kind := .primitive 'I', accessFlags := 0x411 }
/-- [I -/
def k11 : Class := { plain "[I" (some 0) with kind := .array 10 .int, interfaces := #[7, 4], accessFlags := 1041 }

/-- [Lcom/example/mail_policy_gateway/mailpolicygateway/model/Action; -/
def k12 : Class := { plain "[Lcom/example/mail_policy_gateway/mailpolicygateway/model/Action;" (some 0) with kind := .array 6 (.object "com/example/mail_policy_gateway/mailpolicygateway/model/Action"), interfaces := #[7, 4], accessFlags := 1041 }

def heap : Heap := #[{ cls := 6, slots := #[.ref 1, .ref 2, .ref 3, .ref 4, .ref 5, .ref 6, .null], vm := .statics 6 },
  { cls := 6, slots := #[.null, .int 0, .int 0, .null, .int 0, .int 0], vm := .none },
  { cls := 6, slots := #[.null, .int 1, .int 0, .null, .int 0, .int 0], vm := .none },
  { cls := 6, slots := #[.null, .int 2, .int 0, .null, .int 0, .int 0], vm := .none },
  { cls := 6, slots := #[.null, .int 3, .int 0, .null, .int 1, .int 0], vm := .none },
  { cls := 6, slots := #[.null, .int 4, .int 0, .null, .int 0, .int 1], vm := .none },
  { cls := 6, slots := #[.null, .int 5, .int 0, .null, .int 1, .int 1], vm := .none }]
def classes : Array Class := #[k0, k1, k2, k3, k4, k5, k6, k7, k8, k9, k10, k11, k12]
def interned : List (Array UInt16 × Addr) := []
def slotsUsed : Nat := 43
def theMethod : MethodId := ⟨1, 1⟩
def args0 : Array Value := #[.int 5]
def aboutOver (below : List Frame) : State where
  vm := { classes := classes, interned := interned.toArray }
  heap := heap
  slotsUsed := slotsUsed
  threads := #[{ frames := .invoking theMethod args0 :: below }]
def below0 : List Frame := [.native { method := ⟨0, 0⟩, args := #[] }]
def about1 : State := aboutOver below0
def p0 : Program := .bare "" "" ""
def e0 : Env := launch0.env 0 0 0
theorem w_frames : about1.frames = Frame.invoking theMethod args0 :: below0 := rfl
set_option maxRecDepth 65536 in
theorem w_args : argsFit about1.vm theMethod args0 = true := by decide +kernel
set_option maxRecDepth 65536 in
theorem w_heap : heapFits about1 = true := by decide +kernel
set_option maxRecDepth 65536 in
theorem w_runnable : about1.curStatus? = some .runnable := by decide +kernel
set_option maxRecDepth 65536 in
theorem w_alone : about1.alone = true := by decide +kernel
set_option maxRecDepth 65536 in
theorem w_named : about1.methodNamed? x = some theMethod := by decide +kernel
set_option maxRecDepth 65536 in
theorem w_hears : about1.hears theMethod below0 = true := by decide +kernel
set_option maxRecDepth 65536 in
theorem w_ripe : about1.ripe theMethod args0 below0 = true := by decide +kernel
theorem w_running : about1.status = .running := rfl
set_option maxRecDepth 65536 in
theorem w_room : about1.hasRoom e0.platform room_1 = true :=
  launch0.hasRoom_least _ room_1 (by decide +kernel) (by decide +kernel) (by decide +kernel) (by decide +kernel) (by decide +kernel) (by decide +kernel)
theorem allAtoms_all (ts : List Jvm.Cond) (a : Array Jvm.Value) (st : Jvm.State) : (allAtoms ts).before a st = ts.all (fun c => c.before a st) := by
  induction ts with
  | nil => rfl
  | cons c t ih =>
    show (Jvm.Cond.and c (allAtoms t)).before a st = _
    rw [Jvm.Cond.before_and, ih, List.all_cons]
def words1 : List Jvm.Cond := Jvm.Cond.code x code maxLocals ret :: tables_1
/-- a 'code' word, met by the world's own term for the bytes: nothing is compared byte by byte -/
theorem code_word {y : MethodName} {bytes : ByteArray} {mx : Nat} {rt : Option FieldType} {a : Array Value} {s : State} {m : MethodId} {meth : Method} {c : Code} (h1 : s.methodNamed? y = some m) (h2 : s.vm.method? m = some meth) (h3 : meth.code = some c) (h4 : c.code = bytes)
    (h5 : (c.maxLocals == mx && c.exceptionTable.isEmpty && decide (c.maxStack ≤ mostOperands) && decide (meth.sig.returnType = rt) && !meth.locks && decide (parseMethodDescriptor y.desc = some meth.sig)) = true) : (Jvm.Cond.code y bytes mx rt).before a s = true := by
  simp only [Bool.and_eq_true, beq_iff_eq, Bool.not_eq_true', decide_eq_true_eq] at h5
  obtain ⟨⟨⟨⟨⟨g1, g2⟩, g3⟩, g4⟩, g5⟩, g6⟩ := h5
  simp [Cond.before, Cond.holds, Cond.value, h1, h2, h3, h4, g1, g2, g3, g4, g5, g6]
def isCode : Jvm.Cond → Bool
  | .code _ _ _ _ => true
  | _ => false
theorem all_split {L : List Jvm.Cond} {P : Jvm.Cond → Bool} (h1 : L.all (fun c => isCode c || P c) = true) (h2 : ∀ c ∈ L.filter isCode, P c = true) : L.all P = true := by
  refine List.all_eq_true.mpr fun c hc => ?_
  have h := List.all_eq_true.mp h1 c hc
  rcases Bool.eq_false_or_eq_true (isCode c) with hi | hi
  · exact h2 c (List.mem_filter.mpr ⟨hc, hi⟩)
  · simpa [hi] using h
set_option maxRecDepth 65536 in
theorem w_c0 : (Jvm.Cond.code x code maxLocals ret).before args0 about1 = true := code_word (m := ⟨1, 1⟩) (meth := k1m1) (c := k1c1) (by decide +kernel) rfl rfl rfl (by decide +kernel)
set_option maxRecDepth 65536 in
theorem w_c1 : (Jvm.Cond.code ({ cls := "com/example/mail_policy_gateway/mailpolicygateway/model/Action", name := "delivers", desc := "()Z" } : Jvm.MethodName) prog_34_method_6_code (1 : Nat) (Option.some Jvm.ClassFile.FieldType.boolean)).before args0 about1 = true := code_word (m := ⟨6, 0⟩) (meth := k6m0) (c := k6c0) (by decide +kernel) rfl rfl rfl (by decide +kernel)
def codes1 : List Jvm.Cond := [Jvm.Cond.code x code maxLocals ret, Jvm.Cond.code ({ cls := "com/example/mail_policy_gateway/mailpolicygateway/model/Action", name := "delivers", desc := "()Z" } : Jvm.MethodName) prog_34_method_6_code (1 : Nat) (Option.some Jvm.ClassFile.FieldType.boolean)]
set_option maxRecDepth 65536 in
theorem codes_eq : words1.filter isCode = codes1 := rfl
theorem w_codes : ∀ c ∈ words1.filter isCode, c.before args0 about1 = true := by
  rw [codes_eq]
  intro c hc
  simp only [codes1, List.mem_cons, List.not_mem_nil, or_false] at hc
  rcases hc with rfl | rfl
  · exact w_c0
  · exact w_c1
set_option maxRecDepth 65536 in
theorem w_t1 : (words1.take 24).all (fun c => isCode c || c.before args0 about1) = true := by decide +kernel
set_option maxRecDepth 65536 in
theorem w_t2 : (words1.drop 24).all (fun c => isCode c || c.before args0 about1) = true := by decide +kernel
theorem w_tables : (allAtoms (Jvm.Cond.code x code maxLocals ret :: tables_1)).before args0 about1 = true := by
  rw [allAtoms_all]
  show words1.all (fun c => c.before args0 about1) = true
  refine all_split ?_ w_codes
  rw [← List.take_append_drop 24 words1, List.all_append, w_t1, w_t2]
  rfl
set_option maxRecDepth 65536 in
theorem w_case : (Jvm.Cond.and given_1 narrow_1).before args0 about1 = true := by decide +kernel
theorem w_applies : (headSpec (Jvm.Cond.code x code maxLocals ret :: tables_1) room_1).applies x e0.platform about1 = true :=
  (Spec.applies_iff w_frames).mpr ⟨w_running, w_runnable, w_alone, w_named, w_hears, w_ripe, w_room, w_tables⟩
theorem atStart : AtStart classFile x code maxLocals ret World_1 tables_1 room_1 Calls_1 rest_1 Pre_1 launch0 p0 e0 about1 theMethod args0 below0 :=
  ⟨lists_1, trivial, launch0.admits_env _ _ _, launch0.least_env, fairChoices_fair.cas, fairChoices_fair.clock, w_frames, w_args, w_heap, w_applies, trivial, trivial, w_case⟩
end start1
theorem witness_1 : WitnessClaimed_1 := ⟨start1.p0, start1.e0, start1.about1, start1.theMethod, start1.args0, start1.below0, start1.atStart⟩
end Jvm.Pilot.@@N@@

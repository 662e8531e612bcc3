import JvmDerived
import JvmDerived.Pilot.@@N@@Statement
import JvmDerived.Pilot.@@N@@Code
set_option linter.unusedVariables false
set_option linter.unusedSimpArgs false
namespace Jvm.Pilot.@@N@@
open Jvm Jvm.ClassFile Sem Op Lib Jvm.Free Jvm.Stand Jvm.LawKit Jvm.RoadKit Bundle Jvm.Pilot.@@N@@.Jvm.D
theorem own_lit {r c : Int32} {v : Int} (e : c.toInt = v) (h : r.toInt = v) : r = c := Int32.toInt_inj.mp (h.trans e.symm)
theorem own_eqi {args : Array Value} {first s : State} {o : Option Outcome} {idx : List Nat} {t : Jvm.Term} {n : Int32} (h : (Jvm.Cond.eq t (Jvm.Term.int n)).value args first o s idx = some true) : t.eval args first o idx s = some (.int n) := by
  obtain ⟨x, y, h1, h2, h3, -⟩ := cmp_v (Or.inl h)
  have h4 := h2.symm.trans (Term.int_eval n)
  cases h4
  cases x with
  | int i => have h5 := gotT (Cond.eq_ints h1 h2) h; rw [h1, h5]
  | _ => first | (obtain ⟨z, hz⟩ := h3; cases hz; done) | exact absurd h3.2 (by simp [Value.isRef])
def own_Q (w : Value) (h0 : Heap) (n0 : Nat) (v : Option Value) (h : Heap) (L : List Loc) : Prop := v = some w ∧ Fr n0 L ∧ h = h0
theorem own_split0 (p0 : Int32) : ((p0 &&& (2147483647 : Int32)) % (3 : Int32)) = (0 : Int32) ∨ ((p0 &&& (2147483647 : Int32)) % (3 : Int32)) = (1 : Int32) ∨ ((p0 &&& (2147483647 : Int32)) % (3 : Int32)) = (2 : Int32) := by
  have h1 := c_mask p0 (2147483647 : Int32) 31 (by decide) (by decide)
  have h0 : 0 ≤ (p0 &&& (2147483647 : Int32)).toInt := by rw [h1]; exact Int.emod_nonneg _ (by decide)
  have h2 := (c_irem (p0 &&& (2147483647 : Int32)) (3 : Int32) 3 rfl).1 h0
  have h3 : ((p0 &&& (2147483647 : Int32)) % (3 : Int32)).toInt = 0 ∨ ((p0 &&& (2147483647 : Int32)) % (3 : Int32)).toInt = 1 ∨ ((p0 &&& (2147483647 : Int32)) % (3 : Int32)).toInt = 2 := by omega
  rcases h3 with h | h | h
  · exact Or.inl (own_lit rfl h)
  · exact Or.inr (Or.inl (own_lit rfl h))
  · exact Or.inr (Or.inr (own_lit rfl h))
theorem own_split1 (p1 : Int32) : ((p1 &&& (2147483647 : Int32)) % (3 : Int32)) = (0 : Int32) ∨ ((p1 &&& (2147483647 : Int32)) % (3 : Int32)) = (1 : Int32) ∨ ((p1 &&& (2147483647 : Int32)) % (3 : Int32)) = (2 : Int32) := by
  have h1 := c_mask p1 (2147483647 : Int32) 31 (by decide) (by decide)
  have h0 : 0 ≤ (p1 &&& (2147483647 : Int32)).toInt := by rw [h1]; exact Int.emod_nonneg _ (by decide)
  have h2 := (c_irem (p1 &&& (2147483647 : Int32)) (3 : Int32) 3 rfl).1 h0
  have h3 : ((p1 &&& (2147483647 : Int32)) % (3 : Int32)).toInt = 0 ∨ ((p1 &&& (2147483647 : Int32)) % (3 : Int32)).toInt = 1 ∨ ((p1 &&& (2147483647 : Int32)) % (3 : Int32)).toInt = 2 := by omega
  rcases h3 with h | h | h
  · exact Or.inl (own_lit rfl h)
  · exact Or.inr (Or.inl (own_lit rfl h))
  · exact Or.inr (Or.inr (own_lit rfl h))
def Facts (Z : State) (h : Heap) (a_READ a_WRITE a_UPGRADE : Addr) : Prop :=
  Sta Z h "com/example/gridlok/gridlok/model/LockMode" "READ" "Lcom/example/gridlok/gridlok/model/LockMode;" (.ref a_READ) ∧
  Exa Z h a_READ "com/example/gridlok/gridlok/model/LockMode" ∧
  Sta Z h "com/example/gridlok/gridlok/model/LockMode" "WRITE" "Lcom/example/gridlok/gridlok/model/LockMode;" (.ref a_WRITE) ∧
  Exa Z h a_WRITE "com/example/gridlok/gridlok/model/LockMode" ∧
  Fld Z h a_READ "java/lang/Enum" "ordinal" "I" (.int (0 : Int32)) ∧
  Fld Z h a_WRITE "java/lang/Enum" "ordinal" "I" (.int (2 : Int32)) ∧
  Sta Z h "com/example/gridlok/gridlok/model/LockMode" "UPGRADE" "Lcom/example/gridlok/gridlok/model/LockMode;" (.ref a_UPGRADE) ∧
  Exa Z h a_UPGRADE "com/example/gridlok/gridlok/model/LockMode" ∧
  Fld Z h a_UPGRADE "java/lang/Enum" "ordinal" "I" (.int (1 : Int32))
theorem fx_S_READ {Z : State} {h : Heap} {a_READ a_WRITE a_UPGRADE : Addr} (F : Facts Z h a_READ a_WRITE a_UPGRADE) : Sta Z h "com/example/gridlok/gridlok/model/LockMode" "READ" "Lcom/example/gridlok/gridlok/model/LockMode;" (.ref a_READ) := F.1
theorem fx_E_READ {Z : State} {h : Heap} {a_READ a_WRITE a_UPGRADE : Addr} (F : Facts Z h a_READ a_WRITE a_UPGRADE) : Exa Z h a_READ "com/example/gridlok/gridlok/model/LockMode" := F.2.1
theorem fx_S_WRITE {Z : State} {h : Heap} {a_READ a_WRITE a_UPGRADE : Addr} (F : Facts Z h a_READ a_WRITE a_UPGRADE) : Sta Z h "com/example/gridlok/gridlok/model/LockMode" "WRITE" "Lcom/example/gridlok/gridlok/model/LockMode;" (.ref a_WRITE) := F.2.2.1
theorem fx_E_WRITE {Z : State} {h : Heap} {a_READ a_WRITE a_UPGRADE : Addr} (F : Facts Z h a_READ a_WRITE a_UPGRADE) : Exa Z h a_WRITE "com/example/gridlok/gridlok/model/LockMode" := F.2.2.2.1
theorem fx_F_READ_ordinal {Z : State} {h : Heap} {a_READ a_WRITE a_UPGRADE : Addr} (F : Facts Z h a_READ a_WRITE a_UPGRADE) : Fld Z h a_READ "java/lang/Enum" "ordinal" "I" (.int (0 : Int32)) := F.2.2.2.2.1
theorem fx_F_WRITE_ordinal {Z : State} {h : Heap} {a_READ a_WRITE a_UPGRADE : Addr} (F : Facts Z h a_READ a_WRITE a_UPGRADE) : Fld Z h a_WRITE "java/lang/Enum" "ordinal" "I" (.int (2 : Int32)) := F.2.2.2.2.2.1
theorem fx_S_UPGRADE {Z : State} {h : Heap} {a_READ a_WRITE a_UPGRADE : Addr} (F : Facts Z h a_READ a_WRITE a_UPGRADE) : Sta Z h "com/example/gridlok/gridlok/model/LockMode" "UPGRADE" "Lcom/example/gridlok/gridlok/model/LockMode;" (.ref a_UPGRADE) := F.2.2.2.2.2.2.1
theorem fx_E_UPGRADE {Z : State} {h : Heap} {a_READ a_WRITE a_UPGRADE : Addr} (F : Facts Z h a_READ a_WRITE a_UPGRADE) : Exa Z h a_UPGRADE "com/example/gridlok/gridlok/model/LockMode" := F.2.2.2.2.2.2.2.1
theorem fx_F_UPGRADE_ordinal {Z : State} {h : Heap} {a_READ a_WRITE a_UPGRADE : Addr} (F : Facts Z h a_READ a_WRITE a_UPGRADE) : Fld Z h a_UPGRADE "java/lang/Enum" "ordinal" "I" (.int (1 : Int32)) := F.2.2.2.2.2.2.2.2
theorem Facts.ext {Z : State} {h h' : Heap} {a_READ a_WRITE a_UPGRADE : Addr} (F : Facts Z h a_READ a_WRITE a_UPGRADE) (E : Ext h h') : Facts Z h' a_READ a_WRITE a_UPGRADE := ⟨Sta.ext E (fx_S_READ F), Exa.ext E (fx_E_READ F), Sta.ext E (fx_S_WRITE F), Exa.ext E (fx_E_WRITE F), Fld.ext E (fx_F_READ_ordinal F), Fld.ext E (fx_F_WRITE_ordinal F), Sta.ext E (fx_S_UPGRADE F), Exa.ext E (fx_E_UPGRADE F), Fld.ext E (fx_F_UPGRADE_ordinal F)⟩
theorem Facts.wr {Z : State} {h h' : Heap} {a_READ a_WRITE a_UPGRADE : Addr} {h0 : Heap} {b : Addr} {sl : Nat} {v : Value} (F0 : Facts Z h0 a_READ a_WRITE a_UPGRADE) (F : Facts Z h a_READ a_WRITE a_UPGRADE) (W : Wr h h' b sl v) (q : h0.size ≤ b) : Facts Z h' a_READ a_WRITE a_UPGRADE := ⟨Sta.wr W (fx_S_READ F), Exa.wr W (fx_E_READ F), Sta.wr W (fx_S_WRITE F), Exa.wr W (fx_E_WRITE F), Fld.other W (fx_F_READ_ordinal F) (Or.inl (Nat.ne_of_lt (Nat.lt_of_lt_of_le (fx_E_READ F0).lt q))), Fld.other W (fx_F_WRITE_ordinal F) (Or.inl (Nat.ne_of_lt (Nat.lt_of_lt_of_le (fx_E_WRITE F0).lt q))), Sta.wr W (fx_S_UPGRADE F), Exa.wr W (fx_E_UPGRADE F), Fld.other W (fx_F_UPGRADE_ordinal F) (Or.inl (Nat.ne_of_lt (Nat.lt_of_lt_of_le (fx_E_UPGRADE F0).lt q)))⟩
theorem pn_0 : plainName "com/example/gridlok/gridlok/model/LockModeCoversPinLaw" = true := by first | (simp [plainName, overriddenIn]; done) | decide +kernel
theorem ef_0 (m : MethodId) (x0 : Int32) (x1 : Int32) : entryFrame m #[(.int x0), (.int x1)] maxLocals = mkF m 0 #[.val (.int x0), .val (.int x1), .unset, .unset, .unset, .unset, .unset, .unset] [] := by first | (simp [entryFrame, mkF, argsToLocals, Value.category, maxLocals]; done) | rfl
theorem d1_0 : decode method_2_code 0 = .ok (.iload_n 0, 1) := by decide +kernel
theorem d1_1 : decode method_2_code 1 = .ok (.ifCond .ne 7, 3) := by decide +kernel
theorem d1_4 : decode method_2_code 4 = .ok (.getstatic 7, 3) := by decide +kernel
theorem d1_7 : decode method_2_code 7 = .ok (.areturn, 1) := by decide +kernel
theorem d1_8 : decode method_2_code 8 = .ok (.iload_n 0, 1) := by decide +kernel
theorem d1_9 : decode method_2_code 9 = .ok (.iconst 1, 1) := by decide +kernel
theorem d1_10 : decode method_2_code 10 = .ok (.if_icmp .ne 7, 3) := by decide +kernel
theorem d1_13 : decode method_2_code 13 = .ok (.getstatic 13, 3) := by decide +kernel
theorem d1_16 : decode method_2_code 16 = .ok (.areturn, 1) := by decide +kernel
theorem d1_17 : decode method_2_code 17 = .ok (.getstatic 16, 3) := by decide +kernel
theorem d1_20 : decode method_2_code 20 = .ok (.areturn, 1) := by decide +kernel
theorem pn_1 : plainName "com/example/gridlok/gridlok/model/LockModeCoversPinLaw" = true := by first | (simp [plainName, overriddenIn]; done) | decide +kernel
theorem ef_1 (m : MethodId) (x0 : Int32) : entryFrame m #[(.int x0)] 1 = mkF m 0 #[.val (.int x0)] [] := by first | (simp [entryFrame, mkF, argsToLocals, Value.category]; done) | rfl
theorem d2_0 : decode prog_9_method_5_code 0 = .ok (.aload_n 0, 1) := by decide +kernel
theorem d2_1 : decode prog_9_method_5_code 1 = .ok (.getstatic 10, 3) := by decide +kernel
theorem d2_4 : decode prog_9_method_5_code 4 = .ok (.if_acmp .eq 8, 3) := by decide +kernel
theorem d2_7 : decode prog_9_method_5_code 7 = .ok (.aload_n 0, 1) := by decide +kernel
theorem d2_8 : decode prog_9_method_5_code 8 = .ok (.aload_n 1, 1) := by decide +kernel
theorem d2_9 : decode prog_9_method_5_code 9 = .ok (.if_acmp .ne 7, 3) := by decide +kernel
theorem d2_12 : decode prog_9_method_5_code 12 = .ok (.iconst 1, 1) := by decide +kernel
theorem d2_13 : decode prog_9_method_5_code 13 = .ok (.goto 4, 3) := by decide +kernel
theorem d2_16 : decode prog_9_method_5_code 16 = .ok (.iconst 0, 1) := by decide +kernel
theorem d2_17 : decode prog_9_method_5_code 17 = .ok (.ireturn, 1) := by decide +kernel
theorem pn_2 : plainName "com/example/gridlok/gridlok/model/LockMode" = true := by first | (simp [plainName, overriddenIn]; done) | decide +kernel
theorem ef_2 (m : MethodId) (x0 : Addr) (x1 : Addr) : entryFrame m #[(.ref x0), (.ref x1)] 2 = mkF m 0 #[.val (.ref x0), .val (.ref x1)] [] := by first | (simp [entryFrame, mkF, argsToLocals, Value.category]; done) | rfl
theorem pd_0 : parseMethodDescriptor "(I)Lcom/example/gridlok/gridlok/model/LockMode;" = some ⟨[.int], some (.object "com/example/gridlok/gridlok/model/LockMode")⟩ := by decide +kernel
theorem pd_1 : parseMethodDescriptor "(Lcom/example/gridlok/gridlok/model/LockMode;)Z" = some ⟨[(.object "com/example/gridlok/gridlok/model/LockMode")], some .boolean⟩ := by decide +kernel
set_option maxRecDepth 65536 in
set_option maxHeartbeats 40000000 in
theorem seg_0 {p : Program} {l : Launch} {e : Env} {s : State} {m : MethodId} {args : Array Value} {below : List Frame} {meth : Method} {c : Code} {T0 : State} {locs : List Loc} {Z : State} {a0 : Array Value} {h0 : Heap} {n0 : Nat} (hw : ∀ d ∈ tables_1, d.before a0 Z = true) (a_READ a_WRITE a_UPGRADE : Addr) (u0 : Int32) (u1 : Int32) (u2 : Int32) (u3 : Int32)
    (X0 : Stand p l e room_1 s m args below meth c T0 locs 0 0) (hx : p.tables.exec = Jvm.exec) (hZ : Z.Warmed39 s.vm) (hby : c.code = code) (hml : c.maxLocals = 8) (hown : s.vm.findClass "com/example/gridlok/gridlok/model/LockModeCoversPinLaw" = some m.cls) (e0 : T0.heap = h0) (Z0 : n0 ≤ h0.size) (N0 : Fr n0 locs) (FF : Facts Z h0 a_READ a_WRITE a_UPGRADE) :
    ∃ (T' : State) (h' : Heap) (b : Addr) (k : ClassId) (lc : List Loc), Stand p l e room_1 s m args below meth c T' lc 1 9 ∧ T'.heap = h' ∧ h0.size ≤ b ∧ h0.size ≤ h'.size ∧ Fr n0 lc ∧ Facts Z h' a_READ a_WRITE a_UPGRADE ∧ Arv Z h' b k .boolean (9 : Int32) [(.int (1 : Int32)), (.int (0 : Int32)), (.int (0 : Int32)), (.int (0 : Int32)), (.int (1 : Int32)), (.int (0 : Int32)), (.int (1 : Int32)), (.int (1 : Int32)), (.int (1 : Int32))] (.int (0 : Int32)) ∧
      ∀ target, Steps p.tables e below (T'.setTop (mkF m 59 #[.val (.int u0), .val (.int u1), .val (.int u2), .val (.int u3), .val (.ref b), .unset, .unset, .unset] [])) target → Steps p.tables e below (T0.setTop (mkF m 14 #[.val (.int u0), .val (.int u1), .val (.int u2), .val (.int u3), .unset, .unset, .unset, .unset] [])) target := by
  obtain ⟨T1, h1, k1, X1, e1, E1, A1, st1⟩ := newP X0 hx hZ (hw _ (List.mem_of_getElem? (i := 1) rfl)) e0 (g := (mkF m 16 #[.val (.int u0), .val (.int u1), .val (.int u2), .val (.int u3), .unset, .unset, .unset, .unset] [(.int (9 : Int32))])) rfl (hb hby at_16) rfl (by decide) (cap := 9) (by decide) (by decide) (by decide) (by decide)
  obtain ⟨b1, g1⟩ : ∃ z, z = h0.size := ⟨_, rfl⟩
  rw [← g1] at A1 st1
  have V1 : Arv Z h1 b1 k1 .boolean (9 : Int32) [(.int (0 : Int32)), (.int (0 : Int32)), (.int (0 : Int32)), (.int (0 : Int32)), (.int (0 : Int32)), (.int (0 : Int32)), (.int (0 : Int32)), (.int (0 : Int32)), (.int (0 : Int32))] (.int (0 : Int32)) := (Arv.new A1 (by decide)).pad (pad_rep [] (.int (0 : Int32)) 9)
  have s_b1 : h0.size ≤ b1 := Nat.le_trans (Nat.le_refl _) (Nat.le_of_eq g1.symm)
  have z1 : h0.size ≤ h1.size := Nat.le_trans (Nat.le_refl _) E1.1
  have FF1 := Facts.ext FF E1
  obtain ⟨c2, r2, q2, S2, M2, H2, G2⟩ := V1
  have i2 : ¬ ((0 : Int32) < 0 ∨ c2.slots.size ≤ ((0 : Int32)).toNatClampNeg) := inb_of S2 ⟨by decide, by decide⟩
  obtain ⟨T3, h3, X3, e3, W3, st3⟩ := stZ X1 hx hZ e1 r2 (j := (0 : Int32)) i2 (g := (mkF m 21 #[.val (.int u0), .val (.int u1), .val (.int u2), .val (.int u3), .unset, .unset, .unset, .unset] [(.int (1 : Int32)), (.int (0 : Int32)), (.ref b1), (.ref b1)])) rfl rfl (hb hby at_21)
  have V3 : Arv Z h3 b1 k1 .boolean (9 : Int32) [(.int (1 : Int32)), (.int (0 : Int32)), (.int (0 : Int32)), (.int (0 : Int32)), (.int (0 : Int32)), (.int (0 : Int32)), (.int (0 : Int32)), (.int (0 : Int32)), (.int (0 : Int32))] (.int (0 : Int32)) := Arv.set r2 q2 S2 M2 H2 G2 (fits_nar_bool _) W3 0 rfl (Nat.le_of_ble_eq_true rfl)
  have z3 : h0.size ≤ h3.size := Nat.le_trans z1 (Nat.le_of_eq W3.size.symm)
  have FF3 := Facts.wr FF FF1 W3 s_b1
  have N3 := Fr.snoc X3 N0 (Nat.le_trans Z0 s_b1)
  obtain ⟨c4, r4, q4, S4, M4, H4, G4⟩ := V3
  have i4 : ¬ ((1 : Int32) < 0 ∨ c4.slots.size ≤ ((1 : Int32)).toNatClampNeg) := inb_of S4 ⟨by decide, by decide⟩
  obtain ⟨T5, h5, X5, e5, W5, st5⟩ := stZ X3 hx hZ e3 r4 (j := (1 : Int32)) i4 (g := (mkF m 25 #[.val (.int u0), .val (.int u1), .val (.int u2), .val (.int u3), .unset, .unset, .unset, .unset] [(.int (0 : Int32)), (.int (1 : Int32)), (.ref b1), (.ref b1)])) rfl rfl (hb hby at_25)
  have V5 : Arv Z h5 b1 k1 .boolean (9 : Int32) [(.int (1 : Int32)), (.int (0 : Int32)), (.int (0 : Int32)), (.int (0 : Int32)), (.int (0 : Int32)), (.int (0 : Int32)), (.int (0 : Int32)), (.int (0 : Int32)), (.int (0 : Int32))] (.int (0 : Int32)) := Arv.set r4 q4 S4 M4 H4 G4 (fits_nar_bool _) W5 1 rfl (Nat.le_of_ble_eq_true rfl)
  have z5 : h0.size ≤ h5.size := Nat.le_trans z3 (Nat.le_of_eq W5.size.symm)
  have FF5 := Facts.wr FF FF3 W5 s_b1
  have N5 := Fr.snoc X5 N3 (Nat.le_trans Z0 s_b1)
  obtain ⟨c6, r6, q6, S6, M6, H6, G6⟩ := V5
  have i6 : ¬ ((2 : Int32) < 0 ∨ c6.slots.size ≤ ((2 : Int32)).toNatClampNeg) := inb_of S6 ⟨by decide, by decide⟩
  obtain ⟨T7, h7, X7, e7, W7, st7⟩ := stZ X5 hx hZ e5 r6 (j := (2 : Int32)) i6 (g := (mkF m 29 #[.val (.int u0), .val (.int u1), .val (.int u2), .val (.int u3), .unset, .unset, .unset, .unset] [(.int (0 : Int32)), (.int (2 : Int32)), (.ref b1), (.ref b1)])) rfl rfl (hb hby at_29)
  have V7 : Arv Z h7 b1 k1 .boolean (9 : Int32) [(.int (1 : Int32)), (.int (0 : Int32)), (.int (0 : Int32)), (.int (0 : Int32)), (.int (0 : Int32)), (.int (0 : Int32)), (.int (0 : Int32)), (.int (0 : Int32)), (.int (0 : Int32))] (.int (0 : Int32)) := Arv.set r6 q6 S6 M6 H6 G6 (fits_nar_bool _) W7 2 rfl (Nat.le_of_ble_eq_true rfl)
  have z7 : h0.size ≤ h7.size := Nat.le_trans z5 (Nat.le_of_eq W7.size.symm)
  have FF7 := Facts.wr FF FF5 W7 s_b1
  have N7 := Fr.snoc X7 N5 (Nat.le_trans Z0 s_b1)
  obtain ⟨c8, r8, q8, S8, M8, H8, G8⟩ := V7
  have i8 : ¬ ((3 : Int32) < 0 ∨ c8.slots.size ≤ ((3 : Int32)).toNatClampNeg) := inb_of S8 ⟨by decide, by decide⟩
  obtain ⟨T9, h9, X9, e9, W9, st9⟩ := stZ X7 hx hZ e7 r8 (j := (3 : Int32)) i8 (g := (mkF m 33 #[.val (.int u0), .val (.int u1), .val (.int u2), .val (.int u3), .unset, .unset, .unset, .unset] [(.int (0 : Int32)), (.int (3 : Int32)), (.ref b1), (.ref b1)])) rfl rfl (hb hby at_33)
  have V9 : Arv Z h9 b1 k1 .boolean (9 : Int32) [(.int (1 : Int32)), (.int (0 : Int32)), (.int (0 : Int32)), (.int (0 : Int32)), (.int (0 : Int32)), (.int (0 : Int32)), (.int (0 : Int32)), (.int (0 : Int32)), (.int (0 : Int32))] (.int (0 : Int32)) := Arv.set r8 q8 S8 M8 H8 G8 (fits_nar_bool _) W9 3 rfl (Nat.le_of_ble_eq_true rfl)
  have z9 : h0.size ≤ h9.size := Nat.le_trans z7 (Nat.le_of_eq W9.size.symm)
  have FF9 := Facts.wr FF FF7 W9 s_b1
  have N9 := Fr.snoc X9 N7 (Nat.le_trans Z0 s_b1)
  obtain ⟨c10, r10, q10, S10, M10, H10, G10⟩ := V9
  have i10 : ¬ ((4 : Int32) < 0 ∨ c10.slots.size ≤ ((4 : Int32)).toNatClampNeg) := inb_of S10 ⟨by decide, by decide⟩
  obtain ⟨T11, h11, X11, e11, W11, st11⟩ := stZ X9 hx hZ e9 r10 (j := (4 : Int32)) i10 (g := (mkF m 37 #[.val (.int u0), .val (.int u1), .val (.int u2), .val (.int u3), .unset, .unset, .unset, .unset] [(.int (1 : Int32)), (.int (4 : Int32)), (.ref b1), (.ref b1)])) rfl rfl (hb hby at_37)
  have V11 : Arv Z h11 b1 k1 .boolean (9 : Int32) [(.int (1 : Int32)), (.int (0 : Int32)), (.int (0 : Int32)), (.int (0 : Int32)), (.int (1 : Int32)), (.int (0 : Int32)), (.int (0 : Int32)), (.int (0 : Int32)), (.int (0 : Int32))] (.int (0 : Int32)) := Arv.set r10 q10 S10 M10 H10 G10 (fits_nar_bool _) W11 4 rfl (Nat.le_of_ble_eq_true rfl)
  have z11 : h0.size ≤ h11.size := Nat.le_trans z9 (Nat.le_of_eq W11.size.symm)
  have FF11 := Facts.wr FF FF9 W11 s_b1
  have N11 := Fr.snoc X11 N9 (Nat.le_trans Z0 s_b1)
  obtain ⟨c12, r12, q12, S12, M12, H12, G12⟩ := V11
  have i12 : ¬ ((5 : Int32) < 0 ∨ c12.slots.size ≤ ((5 : Int32)).toNatClampNeg) := inb_of S12 ⟨by decide, by decide⟩
  obtain ⟨T13, h13, X13, e13, W13, st13⟩ := stZ X11 hx hZ e11 r12 (j := (5 : Int32)) i12 (g := (mkF m 41 #[.val (.int u0), .val (.int u1), .val (.int u2), .val (.int u3), .unset, .unset, .unset, .unset] [(.int (0 : Int32)), (.int (5 : Int32)), (.ref b1), (.ref b1)])) rfl rfl (hb hby at_41)
  have V13 : Arv Z h13 b1 k1 .boolean (9 : Int32) [(.int (1 : Int32)), (.int (0 : Int32)), (.int (0 : Int32)), (.int (0 : Int32)), (.int (1 : Int32)), (.int (0 : Int32)), (.int (0 : Int32)), (.int (0 : Int32)), (.int (0 : Int32))] (.int (0 : Int32)) := Arv.set r12 q12 S12 M12 H12 G12 (fits_nar_bool _) W13 5 rfl (Nat.le_of_ble_eq_true rfl)
  have z13 : h0.size ≤ h13.size := Nat.le_trans z11 (Nat.le_of_eq W13.size.symm)
  have FF13 := Facts.wr FF FF11 W13 s_b1
  have N13 := Fr.snoc X13 N11 (Nat.le_trans Z0 s_b1)
  obtain ⟨c14, r14, q14, S14, M14, H14, G14⟩ := V13
  have i14 : ¬ ((6 : Int32) < 0 ∨ c14.slots.size ≤ ((6 : Int32)).toNatClampNeg) := inb_of S14 ⟨by decide, by decide⟩
  obtain ⟨T15, h15, X15, e15, W15, st15⟩ := stZ X13 hx hZ e13 r14 (j := (6 : Int32)) i14 (g := (mkF m 46 #[.val (.int u0), .val (.int u1), .val (.int u2), .val (.int u3), .unset, .unset, .unset, .unset] [(.int (1 : Int32)), (.int (6 : Int32)), (.ref b1), (.ref b1)])) rfl rfl (hb hby at_46)
  have V15 : Arv Z h15 b1 k1 .boolean (9 : Int32) [(.int (1 : Int32)), (.int (0 : Int32)), (.int (0 : Int32)), (.int (0 : Int32)), (.int (1 : Int32)), (.int (0 : Int32)), (.int (1 : Int32)), (.int (0 : Int32)), (.int (0 : Int32))] (.int (0 : Int32)) := Arv.set r14 q14 S14 M14 H14 G14 (fits_nar_bool _) W15 6 rfl (Nat.le_of_ble_eq_true rfl)
  have z15 : h0.size ≤ h15.size := Nat.le_trans z13 (Nat.le_of_eq W15.size.symm)
  have FF15 := Facts.wr FF FF13 W15 s_b1
  have N15 := Fr.snoc X15 N13 (Nat.le_trans Z0 s_b1)
  obtain ⟨c16, r16, q16, S16, M16, H16, G16⟩ := V15
  have i16 : ¬ ((7 : Int32) < 0 ∨ c16.slots.size ≤ ((7 : Int32)).toNatClampNeg) := inb_of S16 ⟨by decide, by decide⟩
  obtain ⟨T17, h17, X17, e17, W17, st17⟩ := stZ X15 hx hZ e15 r16 (j := (7 : Int32)) i16 (g := (mkF m 51 #[.val (.int u0), .val (.int u1), .val (.int u2), .val (.int u3), .unset, .unset, .unset, .unset] [(.int (1 : Int32)), (.int (7 : Int32)), (.ref b1), (.ref b1)])) rfl rfl (hb hby at_51)
  have V17 : Arv Z h17 b1 k1 .boolean (9 : Int32) [(.int (1 : Int32)), (.int (0 : Int32)), (.int (0 : Int32)), (.int (0 : Int32)), (.int (1 : Int32)), (.int (0 : Int32)), (.int (1 : Int32)), (.int (1 : Int32)), (.int (0 : Int32))] (.int (0 : Int32)) := Arv.set r16 q16 S16 M16 H16 G16 (fits_nar_bool _) W17 7 rfl (Nat.le_of_ble_eq_true rfl)
  have z17 : h0.size ≤ h17.size := Nat.le_trans z15 (Nat.le_of_eq W17.size.symm)
  have FF17 := Facts.wr FF FF15 W17 s_b1
  have N17 := Fr.snoc X17 N15 (Nat.le_trans Z0 s_b1)
  obtain ⟨c18, r18, q18, S18, M18, H18, G18⟩ := V17
  have i18 : ¬ ((8 : Int32) < 0 ∨ c18.slots.size ≤ ((8 : Int32)).toNatClampNeg) := inb_of S18 ⟨by decide, by decide⟩
  obtain ⟨T19, h19, X19, e19, W19, st19⟩ := stZ X17 hx hZ e17 r18 (j := (8 : Int32)) i18 (g := (mkF m 56 #[.val (.int u0), .val (.int u1), .val (.int u2), .val (.int u3), .unset, .unset, .unset, .unset] [(.int (1 : Int32)), (.int (8 : Int32)), (.ref b1), (.ref b1)])) rfl rfl (hb hby at_56)
  have V19 : Arv Z h19 b1 k1 .boolean (9 : Int32) [(.int (1 : Int32)), (.int (0 : Int32)), (.int (0 : Int32)), (.int (0 : Int32)), (.int (1 : Int32)), (.int (0 : Int32)), (.int (1 : Int32)), (.int (1 : Int32)), (.int (1 : Int32))] (.int (0 : Int32)) := Arv.set r18 q18 S18 M18 H18 G18 (fits_nar_bool _) W19 8 rfl (Nat.le_of_ble_eq_true rfl)
  have z19 : h0.size ≤ h19.size := Nat.le_trans z17 (Nat.le_of_eq W19.size.symm)
  have FF19 := Facts.wr FF FF17 W19 s_b1
  have N19 := Fr.snoc X19 N17 (Nat.le_trans Z0 s_b1)
  refine ⟨T19, h19, b1, k1, _, X19, e19, s_b1, z19, N19, FF19, V19, fun target kt => ?_⟩
  show Steps p.tables e below (T0.setTop (mkF m 14 #[.val (.int u0), .val (.int u1), .val (.int u2), .val (.int u3), .unset, .unset, .unset, .unset] [])) _
  refine XS.bipush X0.here hx rfl (hb hby at_14) ?_
  show Steps p.tables e below (T0.setTop (mkF m 16 #[.val (.int u0), .val (.int u1), .val (.int u2), .val (.int u3), .unset, .unset, .unset, .unset] [(.int (9 : Int32))])) _
  refine st1 _ ?_
  show Steps p.tables e below (T1.setTop (mkF m 18 #[.val (.int u0), .val (.int u1), .val (.int u2), .val (.int u3), .unset, .unset, .unset, .unset] [(.ref b1)])) _
  refine XS.dup X1.here hx rfl (hb hby at_18) rfl rfl ?_
  show Steps p.tables e below (T1.setTop (mkF m 19 #[.val (.int u0), .val (.int u1), .val (.int u2), .val (.int u3), .unset, .unset, .unset, .unset] [(.ref b1), (.ref b1)])) _
  refine XS.iconst X1.here hx rfl (hb hby at_19) ?_
  show Steps p.tables e below (T1.setTop (mkF m 20 #[.val (.int u0), .val (.int u1), .val (.int u2), .val (.int u3), .unset, .unset, .unset, .unset] [(.int (0 : Int32)), (.ref b1), (.ref b1)])) _
  refine XS.iconst X1.here hx rfl (hb hby at_20) ?_
  show Steps p.tables e below (T1.setTop (mkF m 21 #[.val (.int u0), .val (.int u1), .val (.int u2), .val (.int u3), .unset, .unset, .unset, .unset] [(.int (1 : Int32)), (.int (0 : Int32)), (.ref b1), (.ref b1)])) _
  refine st3 _ ?_
  show Steps p.tables e below (T3.setTop (mkF m 22 #[.val (.int u0), .val (.int u1), .val (.int u2), .val (.int u3), .unset, .unset, .unset, .unset] [(.ref b1)])) _
  refine XS.dup X3.here hx rfl (hb hby at_22) rfl rfl ?_
  show Steps p.tables e below (T3.setTop (mkF m 23 #[.val (.int u0), .val (.int u1), .val (.int u2), .val (.int u3), .unset, .unset, .unset, .unset] [(.ref b1), (.ref b1)])) _
  refine XS.iconst X3.here hx rfl (hb hby at_23) ?_
  show Steps p.tables e below (T3.setTop (mkF m 24 #[.val (.int u0), .val (.int u1), .val (.int u2), .val (.int u3), .unset, .unset, .unset, .unset] [(.int (1 : Int32)), (.ref b1), (.ref b1)])) _
  refine XS.iconst X3.here hx rfl (hb hby at_24) ?_
  show Steps p.tables e below (T3.setTop (mkF m 25 #[.val (.int u0), .val (.int u1), .val (.int u2), .val (.int u3), .unset, .unset, .unset, .unset] [(.int (0 : Int32)), (.int (1 : Int32)), (.ref b1), (.ref b1)])) _
  refine st5 _ ?_
  show Steps p.tables e below (T5.setTop (mkF m 26 #[.val (.int u0), .val (.int u1), .val (.int u2), .val (.int u3), .unset, .unset, .unset, .unset] [(.ref b1)])) _
  refine XS.dup X5.here hx rfl (hb hby at_26) rfl rfl ?_
  show Steps p.tables e below (T5.setTop (mkF m 27 #[.val (.int u0), .val (.int u1), .val (.int u2), .val (.int u3), .unset, .unset, .unset, .unset] [(.ref b1), (.ref b1)])) _
  refine XS.iconst X5.here hx rfl (hb hby at_27) ?_
  show Steps p.tables e below (T5.setTop (mkF m 28 #[.val (.int u0), .val (.int u1), .val (.int u2), .val (.int u3), .unset, .unset, .unset, .unset] [(.int (2 : Int32)), (.ref b1), (.ref b1)])) _
  refine XS.iconst X5.here hx rfl (hb hby at_28) ?_
  show Steps p.tables e below (T5.setTop (mkF m 29 #[.val (.int u0), .val (.int u1), .val (.int u2), .val (.int u3), .unset, .unset, .unset, .unset] [(.int (0 : Int32)), (.int (2 : Int32)), (.ref b1), (.ref b1)])) _
  refine st7 _ ?_
  show Steps p.tables e below (T7.setTop (mkF m 30 #[.val (.int u0), .val (.int u1), .val (.int u2), .val (.int u3), .unset, .unset, .unset, .unset] [(.ref b1)])) _
  refine XS.dup X7.here hx rfl (hb hby at_30) rfl rfl ?_
  show Steps p.tables e below (T7.setTop (mkF m 31 #[.val (.int u0), .val (.int u1), .val (.int u2), .val (.int u3), .unset, .unset, .unset, .unset] [(.ref b1), (.ref b1)])) _
  refine XS.iconst X7.here hx rfl (hb hby at_31) ?_
  show Steps p.tables e below (T7.setTop (mkF m 32 #[.val (.int u0), .val (.int u1), .val (.int u2), .val (.int u3), .unset, .unset, .unset, .unset] [(.int (3 : Int32)), (.ref b1), (.ref b1)])) _
  refine XS.iconst X7.here hx rfl (hb hby at_32) ?_
  show Steps p.tables e below (T7.setTop (mkF m 33 #[.val (.int u0), .val (.int u1), .val (.int u2), .val (.int u3), .unset, .unset, .unset, .unset] [(.int (0 : Int32)), (.int (3 : Int32)), (.ref b1), (.ref b1)])) _
  refine st9 _ ?_
  show Steps p.tables e below (T9.setTop (mkF m 34 #[.val (.int u0), .val (.int u1), .val (.int u2), .val (.int u3), .unset, .unset, .unset, .unset] [(.ref b1)])) _
  refine XS.dup X9.here hx rfl (hb hby at_34) rfl rfl ?_
  show Steps p.tables e below (T9.setTop (mkF m 35 #[.val (.int u0), .val (.int u1), .val (.int u2), .val (.int u3), .unset, .unset, .unset, .unset] [(.ref b1), (.ref b1)])) _
  refine XS.iconst X9.here hx rfl (hb hby at_35) ?_
  show Steps p.tables e below (T9.setTop (mkF m 36 #[.val (.int u0), .val (.int u1), .val (.int u2), .val (.int u3), .unset, .unset, .unset, .unset] [(.int (4 : Int32)), (.ref b1), (.ref b1)])) _
  refine XS.iconst X9.here hx rfl (hb hby at_36) ?_
  show Steps p.tables e below (T9.setTop (mkF m 37 #[.val (.int u0), .val (.int u1), .val (.int u2), .val (.int u3), .unset, .unset, .unset, .unset] [(.int (1 : Int32)), (.int (4 : Int32)), (.ref b1), (.ref b1)])) _
  refine st11 _ ?_
  show Steps p.tables e below (T11.setTop (mkF m 38 #[.val (.int u0), .val (.int u1), .val (.int u2), .val (.int u3), .unset, .unset, .unset, .unset] [(.ref b1)])) _
  refine XS.dup X11.here hx rfl (hb hby at_38) rfl rfl ?_
  show Steps p.tables e below (T11.setTop (mkF m 39 #[.val (.int u0), .val (.int u1), .val (.int u2), .val (.int u3), .unset, .unset, .unset, .unset] [(.ref b1), (.ref b1)])) _
  refine XS.iconst X11.here hx rfl (hb hby at_39) ?_
  show Steps p.tables e below (T11.setTop (mkF m 40 #[.val (.int u0), .val (.int u1), .val (.int u2), .val (.int u3), .unset, .unset, .unset, .unset] [(.int (5 : Int32)), (.ref b1), (.ref b1)])) _
  refine XS.iconst X11.here hx rfl (hb hby at_40) ?_
  show Steps p.tables e below (T11.setTop (mkF m 41 #[.val (.int u0), .val (.int u1), .val (.int u2), .val (.int u3), .unset, .unset, .unset, .unset] [(.int (0 : Int32)), (.int (5 : Int32)), (.ref b1), (.ref b1)])) _
  refine st13 _ ?_
  show Steps p.tables e below (T13.setTop (mkF m 42 #[.val (.int u0), .val (.int u1), .val (.int u2), .val (.int u3), .unset, .unset, .unset, .unset] [(.ref b1)])) _
  refine XS.dup X13.here hx rfl (hb hby at_42) rfl rfl ?_
  show Steps p.tables e below (T13.setTop (mkF m 43 #[.val (.int u0), .val (.int u1), .val (.int u2), .val (.int u3), .unset, .unset, .unset, .unset] [(.ref b1), (.ref b1)])) _
  refine XS.bipush X13.here hx rfl (hb hby at_43) ?_
  show Steps p.tables e below (T13.setTop (mkF m 45 #[.val (.int u0), .val (.int u1), .val (.int u2), .val (.int u3), .unset, .unset, .unset, .unset] [(.int (6 : Int32)), (.ref b1), (.ref b1)])) _
  refine XS.iconst X13.here hx rfl (hb hby at_45) ?_
  show Steps p.tables e below (T13.setTop (mkF m 46 #[.val (.int u0), .val (.int u1), .val (.int u2), .val (.int u3), .unset, .unset, .unset, .unset] [(.int (1 : Int32)), (.int (6 : Int32)), (.ref b1), (.ref b1)])) _
  refine st15 _ ?_
  show Steps p.tables e below (T15.setTop (mkF m 47 #[.val (.int u0), .val (.int u1), .val (.int u2), .val (.int u3), .unset, .unset, .unset, .unset] [(.ref b1)])) _
  refine XS.dup X15.here hx rfl (hb hby at_47) rfl rfl ?_
  show Steps p.tables e below (T15.setTop (mkF m 48 #[.val (.int u0), .val (.int u1), .val (.int u2), .val (.int u3), .unset, .unset, .unset, .unset] [(.ref b1), (.ref b1)])) _
  refine XS.bipush X15.here hx rfl (hb hby at_48) ?_
  show Steps p.tables e below (T15.setTop (mkF m 50 #[.val (.int u0), .val (.int u1), .val (.int u2), .val (.int u3), .unset, .unset, .unset, .unset] [(.int (7 : Int32)), (.ref b1), (.ref b1)])) _
  refine XS.iconst X15.here hx rfl (hb hby at_50) ?_
  show Steps p.tables e below (T15.setTop (mkF m 51 #[.val (.int u0), .val (.int u1), .val (.int u2), .val (.int u3), .unset, .unset, .unset, .unset] [(.int (1 : Int32)), (.int (7 : Int32)), (.ref b1), (.ref b1)])) _
  refine st17 _ ?_
  show Steps p.tables e below (T17.setTop (mkF m 52 #[.val (.int u0), .val (.int u1), .val (.int u2), .val (.int u3), .unset, .unset, .unset, .unset] [(.ref b1)])) _
  refine XS.dup X17.here hx rfl (hb hby at_52) rfl rfl ?_
  show Steps p.tables e below (T17.setTop (mkF m 53 #[.val (.int u0), .val (.int u1), .val (.int u2), .val (.int u3), .unset, .unset, .unset, .unset] [(.ref b1), (.ref b1)])) _
  refine XS.bipush X17.here hx rfl (hb hby at_53) ?_
  show Steps p.tables e below (T17.setTop (mkF m 55 #[.val (.int u0), .val (.int u1), .val (.int u2), .val (.int u3), .unset, .unset, .unset, .unset] [(.int (8 : Int32)), (.ref b1), (.ref b1)])) _
  refine XS.iconst X17.here hx rfl (hb hby at_55) ?_
  show Steps p.tables e below (T17.setTop (mkF m 56 #[.val (.int u0), .val (.int u1), .val (.int u2), .val (.int u3), .unset, .unset, .unset, .unset] [(.int (1 : Int32)), (.int (8 : Int32)), (.ref b1), (.ref b1)])) _
  refine st19 _ ?_
  show Steps p.tables e below (T19.setTop (mkF m 57 #[.val (.int u0), .val (.int u1), .val (.int u2), .val (.int u3), .unset, .unset, .unset, .unset] [(.ref b1)])) _
  refine XS.astore X19.here hx rfl (hb hby at_57) rfl rfl (l' := #[.val (.int u0), .val (.int u1), .val (.int u2), .val (.int u3), .val (.ref b1), .unset, .unset, .unset]) rfl ?_
  exact kt
set_option maxRecDepth 65536 in
set_option maxHeartbeats 40000000 in
theorem rm1_0 (l : Launch) (Z : State) (a0 : Array Value) (hw : ∀ d ∈ tables_1, d.before a0 Z = true) (ws : List Jvm.Cond) (p0 p1 : Int32) (a_READ a_WRITE a_UPGRADE : Addr) (h0 : Heap) (n0 : Nat) (Z0 : n0 ≤ h0.size) (FF : Facts Z h0 a_READ a_WRITE a_UPGRADE) :
    MetFree l (⟨"com/example/gridlok/gridlok/model/LockModeCoversPinLaw", "mode", "(I)Lcom/example/gridlok/gridlok/model/LockMode;"⟩ : MethodName) (head1 (Jvm.Cond.code (⟨"com/example/gridlok/gridlok/model/LockModeCoversPinLaw", "mode", "(I)Lcom/example/gridlok/gridlok/model/LockMode;"⟩ : MethodName) method_2_code 1 (some (.object "com/example/gridlok/gridlok/model/LockMode")) :: ws) ({ frames := 0, cells := 0, slots := 0, locals := 0 } : Room)) (fun a U => a = #[(.int (0 : Int32))] ∧ Z.Warmed39 U.vm ∧ U.heap = h0) (fun _ _ _ _ _ => True) (fun _ U o U' => ∃ v L, o = .returned v ∧ own_Q (.ref a_READ) h0 n0 v U'.heap L ∧ FrameEnd U o U' L ({ frames := 0, cells := 0, slots := 0, locals := 0 } : Room).cells ({ frames := 0, cells := 0, slots := 0, locals := 0 } : Room).slots) := by
  refine MetFree.of_bodySF (plainFor_of_name pn_1) hisR ?_
  intro p e s m args below meth c s₁ Bd hml0 hP hK
  obtain ⟨rfl, hZ, hh⟩ := hP
  have hx := Bd.exec
  have hby := Bd.bytes
  have hml : c.maxLocals = 1 := hml0
  have hown : s.vm.findClass "com/example/gridlok/gridlok/model/LockModeCoversPinLaw" = some m.cls := findClass_of_methodNamed Bd.named
  have X0 : Stand p l e ({ frames := 0, cells := 0, slots := 0, locals := 0 } : Room) s m #[(.int (0 : Int32))] below meth c s₁ [] 0 0 := Stand.of_body Bd
  have e0 : s₁.heap = h0 := by rw [← hh, Bd.state]; rfl
  have N0 := Fr.nil n0
  have pre0 : ∀ t, Steps p.tables e below (s₁.setTop (mkF m 0 #[.val (.int (0 : Int32))] [])) t → Steps p.tables e below (s₁.setTop (entryFrame m #[(.int (0 : Int32))] 1)) t := fun t k => castTop (ef_1 m (0 : Int32)) k
  obtain ⟨T1, X1, e1, st1⟩ := getS2 X0 hx hZ hown (host := "") (Or.inl (hw _ (List.mem_of_getElem? (i := 6) rfl))) Via.refl e0 (fx_S_READ FF) (g := (mkF m 4 #[.val (.int (0 : Int32))] [])) rfl (hb hby d1_4)
  obtain ⟨fs, hr, hrun, hended, hW, hsame⟩ := X1.leave (v := some (.ref a_READ)) (fun h => by rw [Bd.returns] at h; cases h)
  refine ⟨_, _, pre0 _ ?_, hrun, hended, _, _, rfl, ?_, ⟨_, rfl⟩, hW, hsame.mono (by decide) (by decide)⟩
  · show Steps p.tables e below (s₁.setTop (mkF m 0 #[.val (.int (0 : Int32))] [])) _
    refine XS.iloadN X0.here hx rfl (hb hby d1_0) rfl ?_
    show Steps p.tables e below (s₁.setTop (mkF m 1 #[.val (.int (0 : Int32))] [(.int (0 : Int32))])) _
    refine XS.ifNo X0.here hx rfl (hb hby d1_1) rfl (by decide) ?_
    show Steps p.tables e below (s₁.setTop (mkF m 4 #[.val (.int (0 : Int32))] [])) _
    refine st1 _ ?_
    show Steps p.tables e below (T1.setTop (mkF m 7 #[.val (.int (0 : Int32))] [(.ref a_READ)])) _
    exact retOut X1 hx Bd.returns rfl (Or.inr (Or.inr (Or.inr (Or.inr ⟨rfl, rfl, rfl⟩)))) (hb hby d1_7) hr
  · show own_Q _ _ _ _ T1.heap _
    exact ⟨rfl, N0, e1⟩
set_option maxRecDepth 65536 in
set_option maxHeartbeats 40000000 in
theorem rm2_0 (l : Launch) (Z : State) (a0 : Array Value) (hw : ∀ d ∈ tables_1, d.before a0 Z = true) (ws : List Jvm.Cond) (p0 p1 : Int32) (a_READ a_WRITE a_UPGRADE : Addr) (h0 : Heap) (n0 : Nat) (Z0 : n0 ≤ h0.size) (FF : Facts Z h0 a_READ a_WRITE a_UPGRADE) :
    MetFree l (⟨"com/example/gridlok/gridlok/model/LockMode", "covers", "(Lcom/example/gridlok/gridlok/model/LockMode;)Z"⟩ : MethodName) (head1 (Jvm.Cond.code (⟨"com/example/gridlok/gridlok/model/LockMode", "covers", "(Lcom/example/gridlok/gridlok/model/LockMode;)Z"⟩ : MethodName) prog_9_method_5_code 2 (some .boolean) :: ws) ({ frames := 0, cells := 0, slots := 0, locals := 0 } : Room)) (fun a U => a = #[(.ref a_READ), (.ref a_READ)] ∧ Z.Warmed39 U.vm ∧ U.heap = h0) (fun _ _ _ _ _ => True) (fun _ U o U' => ∃ v L, o = .returned v ∧ own_Q (.int (1 : Int32)) h0 n0 v U'.heap L ∧ FrameEnd U o U' L ({ frames := 0, cells := 0, slots := 0, locals := 0 } : Room).cells ({ frames := 0, cells := 0, slots := 0, locals := 0 } : Room).slots) := by
  refine MetFree.of_bodySF (plainFor_of_name pn_2) hisR ?_
  intro p e s m args below meth c s₁ Bd hml0 hP hK
  obtain ⟨rfl, hZ, hh⟩ := hP
  have hx := Bd.exec
  have hby := Bd.bytes
  have hml : c.maxLocals = 2 := hml0
  have hown : s.vm.findClass "com/example/gridlok/gridlok/model/LockMode" = some m.cls := findClass_of_methodNamed Bd.named
  have X0 : Stand p l e ({ frames := 0, cells := 0, slots := 0, locals := 0 } : Room) s m #[(.ref a_READ), (.ref a_READ)] below meth c s₁ [] 0 0 := Stand.of_body Bd
  have e0 : s₁.heap = h0 := by rw [← hh, Bd.state]; rfl
  have N0 := Fr.nil n0
  have pre0 : ∀ t, Steps p.tables e below (s₁.setTop (mkF m 0 #[.val (.ref a_READ), .val (.ref a_READ)] [])) t → Steps p.tables e below (s₁.setTop (entryFrame m #[(.ref a_READ), (.ref a_READ)] 2)) t := fun t k => castTop (ef_2 m a_READ a_READ) k
  obtain ⟨T1, X1, e1, st1⟩ := getS2 X0 hx hZ hown (host := "") (Or.inl (hw _ (List.mem_of_getElem? (i := 14) rfl))) Via.refl e0 (fx_S_WRITE FF) (g := (mkF m 1 #[.val (.ref a_READ), .val (.ref a_READ)] [(.ref a_READ)])) rfl (hb hby d2_1)
  obtain ⟨fs, hr, hrun, hended, hW, hsame⟩ := X1.leave (v := some (.int (1 : Int32))) (fun h => by rw [Bd.returns] at h; cases h)
  refine ⟨_, _, pre0 _ ?_, hrun, hended, _, _, rfl, ?_, ⟨_, rfl⟩, hW, hsame.mono (by decide) (by decide)⟩
  · show Steps p.tables e below (s₁.setTop (mkF m 0 #[.val (.ref a_READ), .val (.ref a_READ)] [])) _
    refine XS.aloadN X0.here hx rfl (hb hby d2_0) rfl rfl ?_
    show Steps p.tables e below (s₁.setTop (mkF m 1 #[.val (.ref a_READ), .val (.ref a_READ)] [(.ref a_READ)])) _
    refine st1 _ ?_
    show Steps p.tables e below (T1.setTop (mkF m 4 #[.val (.ref a_READ), .val (.ref a_READ)] [(.ref a_WRITE), (.ref a_READ)])) _
    refine Jvm.RoadKit.acmp (g := (mkF m 4 #[.val (.ref a_READ), .val (.ref a_READ)] [(.ref a_WRITE), (.ref a_READ)])) X1 hx rfl rfl rfl (pc0 := 4) (pc' := 7) (same := false) rfl (hb hby d2_4) rfl (decide_eq_false fun q => Fld.ne (fx_F_READ_ordinal FF) (fx_F_WRITE_ordinal FF) (by decide) (Value.ref.inj q)) (by decide) (by decide) ?_
    show Steps p.tables e below (T1.setTop (mkF m 7 #[.val (.ref a_READ), .val (.ref a_READ)] [])) _
    refine XS.aloadN X1.here hx rfl (hb hby d2_7) rfl rfl ?_
    show Steps p.tables e below (T1.setTop (mkF m 8 #[.val (.ref a_READ), .val (.ref a_READ)] [(.ref a_READ)])) _
    refine XS.aloadN X1.here hx rfl (hb hby d2_8) rfl rfl ?_
    show Steps p.tables e below (T1.setTop (mkF m 9 #[.val (.ref a_READ), .val (.ref a_READ)] [(.ref a_READ), (.ref a_READ)])) _
    refine Jvm.RoadKit.acmp (g := (mkF m 9 #[.val (.ref a_READ), .val (.ref a_READ)] [(.ref a_READ), (.ref a_READ)])) X1 hx rfl rfl rfl (pc0 := 9) (pc' := 12) (same := true) rfl (hb hby d2_9) rfl (decide_eq_true rfl) (by decide) (by decide) ?_
    show Steps p.tables e below (T1.setTop (mkF m 12 #[.val (.ref a_READ), .val (.ref a_READ)] [])) _
    refine XS.iconst X1.here hx rfl (hb hby d2_12) ?_
    show Steps p.tables e below (T1.setTop (mkF m 13 #[.val (.ref a_READ), .val (.ref a_READ)] [(.int (1 : Int32))])) _
    refine XS.goto X1.here hx rfl (pc0 := 13) (pc' := 17) rfl (hb hby d2_13) (by decide) (by decide) ?_
    show Steps p.tables e below (T1.setTop (mkF m 17 #[.val (.ref a_READ), .val (.ref a_READ)] [(.int (1 : Int32))])) _
    exact retN X1 hx (t := .boolean) Bd.returns (by simp) (hb hby d2_17) hr
  · show own_Q _ _ _ _ T1.heap _
    exact ⟨rfl, N0, e1⟩
set_option maxRecDepth 65536 in
set_option maxHeartbeats 40000000 in
theorem rm0_0 (l : Launch) (Z : State) (a0 : Array Value) (hw : ∀ d ∈ tables_1, d.before a0 Z = true) (ws : List Jvm.Cond) (p0 p1 : Int32) (a_READ a_WRITE a_UPGRADE : Addr) (h0 : Heap) (n0 : Nat) (Z0 : n0 ≤ h0.size) (FF : Facts Z h0 a_READ a_WRITE a_UPGRADE) (hk0 : ((p0 &&& (2147483647 : Int32)) % (3 : Int32)) = (0 : Int32)) (hk1 : ((p1 &&& (2147483647 : Int32)) % (3 : Int32)) = (0 : Int32)) :
    MetFree l x (head1 (Jvm.Cond.code x code maxLocals ret :: ws) room_1) (fun a U => a = #[(.int p0), (.int p1)] ∧ Z.Warmed39 U.vm ∧ U.heap = h0) (fun _ _ _ _ _ => True) (fun _ U o U' => ∃ v L, o = .returned v ∧ (v = some (.int (1 : Int32)) ∧ Fr n0 L) ∧ FrameEnd U o U' L room_1.cells room_1.slots) := by
  refine MetFree.of_bodySF (plainFor_of_name pn_0) hisR ?_
  intro p e s m args below meth c s₁ Bd hml0 hP hK
  obtain ⟨rfl, hZ, hh⟩ := hP
  have hx := Bd.exec
  have hby := Bd.bytes
  have hml : c.maxLocals = 8 := hml0
  have hown : s.vm.findClass "com/example/gridlok/gridlok/model/LockModeCoversPinLaw" = some m.cls := findClass_of_methodNamed Bd.named
  have X0 : Stand p l e room_1 s m #[(.int p0), (.int p1)] below meth c s₁ [] 0 0 := Stand.of_body Bd
  have e0 : s₁.heap = h0 := by rw [← hh, Bd.state]; rfl
  have N0 := Fr.nil n0
  have pre0 : ∀ t, Steps p.tables e below (s₁.setTop (mkF m 0 #[.val (.int p0), .val (.int p1), .unset, .unset, .unset, .unset, .unset, .unset] [])) t → Steps p.tables e below (s₁.setTop (entryFrame m #[(.int p0), (.int p1)] maxLocals)) t := fun t k => castTop (ef_0 m p0 p1) k
  obtain ⟨T1, h1, b1, k1, lc1, X1, e1, s_b1, z1, N1, FF1, V1, st1⟩ := seg_0 (l := l) (Z := Z) hw a_READ a_WRITE a_UPGRADE p0 p1 (0 : Int32) (0 : Int32) X0 hx hZ hby hml hown e0 Z0 N0 FF
  obtain ⟨_, _, ⟨T2, L2, k2, n2⟩, -, X2, ⟨Lc2, hQ2, l2, y2, z2⟩, st2⟩ := Jvm.LawKit.callS X1 hx (y := (⟨"com/example/gridlok/gridlok/model/LockModeCoversPinLaw", "mode", "(I)Lcom/example/gridlok/gridlok/model/LockMode;"⟩ : MethodName)) hown (mvT hZ (hw _ (List.mem_of_getElem? (i := 2) rfl))) (mvT hZ (hw _ (List.mem_of_getElem? (i := 3) rfl))) (mvT hZ (hw _ (List.mem_of_getElem? (i := 4) rfl))) (mvT hZ (hw _ (List.mem_of_getElem? (i := 5) rfl))) (by decide) (backOf (W := 0) (rm1_0 l Z a0 hw [] p0 p1 a_READ a_WRITE a_UPGRADE h1 n0 (Nat.le_trans Z0 z1) FF1) hZ (hw _ (List.mem_of_getElem? (i := 5) rfl)) (hw _ (List.mem_of_getElem? (i := 4) rfl)) (by decide) (by decide)) (g := (mkF m 60 #[.val (.int p0), .val (.int p1), .val (.int (0 : Int32)), .val (.int (0 : Int32)), .val (.ref b1), .unset, .unset, .unset] [(.int (0 : Int32))])) rfl (by rw [hml]; rfl) (argsL := [(.int (0 : Int32))]) (rest := []) (lenOf pd_0 rfl) rfl (by show 2 * 0 + _ ≤ _; exact Nat.le_of_eq rfl) (hb hby at_60) (fun _ _ => ⟨rfl, e1, (by decide : 1 + 0 ≤ _), (by decide : 9 + 0 ≤ _)⟩)
  dsimp only [Pt.U, Pt.locs, Pt.cells, Pt.slots] at X2 l2 y2 z2 st2 hQ2
  subst l2 y2 z2
  obtain ⟨rfl, N2q, e2⟩ := hQ2
  have N2 := Fr.app N1 N2q
  obtain ⟨_, _, ⟨T3, L3, k3, n3⟩, -, X3, ⟨Lc3, hQ3, l3, y3, z3⟩, st3⟩ := Jvm.LawKit.callS X2 hx (y := (⟨"com/example/gridlok/gridlok/model/LockModeCoversPinLaw", "mode", "(I)Lcom/example/gridlok/gridlok/model/LockMode;"⟩ : MethodName)) hown (mvT hZ (hw _ (List.mem_of_getElem? (i := 2) rfl))) (mvT hZ (hw _ (List.mem_of_getElem? (i := 3) rfl))) (mvT hZ (hw _ (List.mem_of_getElem? (i := 4) rfl))) (mvT hZ (hw _ (List.mem_of_getElem? (i := 5) rfl))) (by decide) (backOf (W := 0) (rm1_0 l Z a0 hw [] p0 p1 a_READ a_WRITE a_UPGRADE h1 n0 (Nat.le_trans Z0 z1) FF1) hZ (hw _ (List.mem_of_getElem? (i := 5) rfl)) (hw _ (List.mem_of_getElem? (i := 4) rfl)) (by decide) (by decide)) (g := (mkF m 66 #[.val (.int p0), .val (.int p1), .val (.int (0 : Int32)), .val (.int (0 : Int32)), .val (.ref b1), .val (.ref a_READ), .unset, .unset] [(.int (0 : Int32))])) rfl (by rw [hml]; rfl) (argsL := [(.int (0 : Int32))]) (rest := []) (lenOf pd_0 rfl) rfl (by show 2 * 0 + _ ≤ _; exact Nat.le_of_eq rfl) (hb hby at_66) (fun _ _ => ⟨rfl, e2, (by decide : 1 + 0 ≤ _), (by decide : 9 + 0 ≤ _)⟩)
  dsimp only [Pt.U, Pt.locs, Pt.cells, Pt.slots] at X3 l3 y3 z3 st3 hQ3
  subst l3 y3 z3
  obtain ⟨rfl, N3q, e3⟩ := hQ3
  have N3 := Fr.app N2 N3q
  obtain ⟨cq4, kq4, q4a, q4b, q4c⟩ := isOf hZ e3 (fx_E_READ FF1)
  obtain ⟨_, _, ⟨T4, L4, k4, n4⟩, -, X4, ⟨Lc4, hQ4, l4, y4, z4⟩, st4⟩ := X3.virtualBack hx (y := (⟨"com/example/gridlok/gridlok/model/LockMode", "covers", "(Lcom/example/gridlok/gridlok/model/LockMode;)Z"⟩ : MethodName)) (z := (⟨"com/example/gridlok/gridlok/model/LockMode", "covers", "(Lcom/example/gridlok/gridlok/model/LockMode;)Z"⟩ : MethodName)) hown (mvT hZ (hw _ (List.mem_of_getElem? (i := 9) rfl))) (mvT hZ (hw _ (List.mem_of_getElem? (i := 10) rfl))) (notFace_of_selects (args := #[]) (mvT hZ (hw _ (List.mem_of_getElem? (i := 12) rfl)))) (mvT hZ (hw _ (List.mem_of_getElem? (i := 12) rfl))) (mvT hZ (hw _ (List.mem_of_getElem? (i := 11) rfl))) (by decide) (backOf (W := 0) (rm2_0 l Z a0 hw [] p0 p1 a_READ a_WRITE a_UPGRADE h1 n0 (Nat.le_trans Z0 z1) FF1) hZ (hw _ (List.mem_of_getElem? (i := 13) rfl)) (hw _ (List.mem_of_getElem? (i := 7) rfl)) (by decide) (by decide)) q4a q4c (g := (mkF m 75 #[.val (.int p0), .val (.int p1), .val (.int (0 : Int32)), .val (.int (0 : Int32)), .val (.ref b1), .val (.ref a_READ), .val (.ref a_READ), .unset] [(.ref a_READ), (.ref a_READ)])) rfl (by rw [hml]; rfl) (Steps.refl _) (argsL := [(.ref a_READ)]) (rest := []) (lenOf pd_1 rfl) rfl (by show 2 * 0 + _ ≤ _; exact Nat.le_of_eq rfl) (hb hby at_75) (fun _ _ => ⟨rfl, e3, (by decide : 1 + 0 ≤ _), (by decide : 9 + 0 ≤ _)⟩)
  dsimp only [Pt.U, Pt.locs, Pt.cells, Pt.slots] at X4 l4 y4 z4 st4 hQ4
  subst l4 y4 z4
  obtain ⟨rfl, N4q, e4⟩ := hQ4
  have N4 := Fr.app N3 N4q
  obtain ⟨c5, r5, -, S5, -, H5, -⟩ := V1
  have i5 : ¬ ((0 : Int32) < 0 ∨ c5.slots.size ≤ ((0 : Int32)).toNatClampNeg) := inb_of S5 ⟨by decide, by decide⟩
  have y5 : c5.slots[((0 : Int32)).toNatClampNeg]? = some (.int (1 : Int32)) := H5 0 (by rw [S5]; decide)
  obtain ⟨fs, hr, hrun, hended, hW, hsame⟩ := X4.leave (v := some (.int (1 : Int32))) (fun h => by rw [Bd.returns] at h; cases h)
  refine ⟨_, _, pre0 _ ?_, hrun, hended, _, _, rfl, ?_, ⟨_, rfl⟩, hW, hsame.mono (by decide) (by decide)⟩
  · show Steps p.tables e below (s₁.setTop (mkF m 0 #[.val (.int p0), .val (.int p1), .unset, .unset, .unset, .unset, .unset, .unset] [])) _
    refine XS.iloadN X0.here hx rfl (hb hby at_0) rfl ?_
    show Steps p.tables e below (s₁.setTop (mkF m 1 #[.val (.int p0), .val (.int p1), .unset, .unset, .unset, .unset, .unset, .unset] [(.int p0)])) _
    refine X0.ldcInt hx hown (mvT hZ (hw _ (List.mem_of_getElem? (i := 0) rfl))) (g := (mkF m 1 #[.val (.int p0), .val (.int p1), .unset, .unset, .unset, .unset, .unset, .unset] [(.int p0)])) rfl (hb hby at_1) _ ?_
    show Steps p.tables e below (s₁.setTop (mkF m 3 #[.val (.int p0), .val (.int p1), .unset, .unset, .unset, .unset, .unset, .unset] [(.int (2147483647 : Int32)), (.int p0)])) _
    refine XS.iand X0.here hx rfl (hb hby at_3) rfl ?_
    show Steps p.tables e below (s₁.setTop (mkF m 4 #[.val (.int p0), .val (.int p1), .unset, .unset, .unset, .unset, .unset, .unset] [(.int (p0 &&& (2147483647 : Int32)))])) _
    refine XS.iconst X0.here hx rfl (hb hby at_4) ?_
    show Steps p.tables e below (s₁.setTop (mkF m 5 #[.val (.int p0), .val (.int p1), .unset, .unset, .unset, .unset, .unset, .unset] [(.int (3 : Int32)), (.int (p0 &&& (2147483647 : Int32)))])) _
    refine iremM X0 hx rfl (hb hby at_5) rfl (by decide) ?_
    show Steps p.tables e below (s₁.setTop (mkF m 6 #[.val (.int p0), .val (.int p1), .unset, .unset, .unset, .unset, .unset, .unset] [(.int ((p0 &&& (2147483647 : Int32)) % (3 : Int32)))])) _
    rw [hk0]
    show Steps p.tables e below (s₁.setTop (mkF m 6 #[.val (.int p0), .val (.int p1), .unset, .unset, .unset, .unset, .unset, .unset] [(.int (0 : Int32))])) _
    refine XS.istoreN X0.here hx rfl (hb hby at_6) rfl (l' := #[.val (.int p0), .val (.int p1), .val (.int (0 : Int32)), .unset, .unset, .unset, .unset, .unset]) rfl ?_
    show Steps p.tables e below (s₁.setTop (mkF m 7 #[.val (.int p0), .val (.int p1), .val (.int (0 : Int32)), .unset, .unset, .unset, .unset, .unset] [])) _
    refine XS.iloadN X0.here hx rfl (hb hby at_7) rfl ?_
    show Steps p.tables e below (s₁.setTop (mkF m 8 #[.val (.int p0), .val (.int p1), .val (.int (0 : Int32)), .unset, .unset, .unset, .unset, .unset] [(.int p1)])) _
    refine X0.ldcInt hx hown (mvT hZ (hw _ (List.mem_of_getElem? (i := 0) rfl))) (g := (mkF m 8 #[.val (.int p0), .val (.int p1), .val (.int (0 : Int32)), .unset, .unset, .unset, .unset, .unset] [(.int p1)])) rfl (hb hby at_8) _ ?_
    show Steps p.tables e below (s₁.setTop (mkF m 10 #[.val (.int p0), .val (.int p1), .val (.int (0 : Int32)), .unset, .unset, .unset, .unset, .unset] [(.int (2147483647 : Int32)), (.int p1)])) _
    refine XS.iand X0.here hx rfl (hb hby at_10) rfl ?_
    show Steps p.tables e below (s₁.setTop (mkF m 11 #[.val (.int p0), .val (.int p1), .val (.int (0 : Int32)), .unset, .unset, .unset, .unset, .unset] [(.int (p1 &&& (2147483647 : Int32)))])) _
    refine XS.iconst X0.here hx rfl (hb hby at_11) ?_
    show Steps p.tables e below (s₁.setTop (mkF m 12 #[.val (.int p0), .val (.int p1), .val (.int (0 : Int32)), .unset, .unset, .unset, .unset, .unset] [(.int (3 : Int32)), (.int (p1 &&& (2147483647 : Int32)))])) _
    refine iremM X0 hx rfl (hb hby at_12) rfl (by decide) ?_
    show Steps p.tables e below (s₁.setTop (mkF m 13 #[.val (.int p0), .val (.int p1), .val (.int (0 : Int32)), .unset, .unset, .unset, .unset, .unset] [(.int ((p1 &&& (2147483647 : Int32)) % (3 : Int32)))])) _
    rw [hk1]
    show Steps p.tables e below (s₁.setTop (mkF m 13 #[.val (.int p0), .val (.int p1), .val (.int (0 : Int32)), .unset, .unset, .unset, .unset, .unset] [(.int (0 : Int32))])) _
    refine XS.istoreN X0.here hx rfl (hb hby at_13) rfl (l' := #[.val (.int p0), .val (.int p1), .val (.int (0 : Int32)), .val (.int (0 : Int32)), .unset, .unset, .unset, .unset]) rfl ?_
    show Steps p.tables e below (s₁.setTop (mkF m 14 #[.val (.int p0), .val (.int p1), .val (.int (0 : Int32)), .val (.int (0 : Int32)), .unset, .unset, .unset, .unset] [])) _
    refine st1 _ ?_
    show Steps p.tables e below (T1.setTop (mkF m 59 #[.val (.int p0), .val (.int p1), .val (.int (0 : Int32)), .val (.int (0 : Int32)), .val (.ref b1), .unset, .unset, .unset] [])) _
    refine XS.iloadN X1.here hx rfl (hb hby at_59) rfl ?_
    show Steps p.tables e below (T1.setTop (mkF m 60 #[.val (.int p0), .val (.int p1), .val (.int (0 : Int32)), .val (.int (0 : Int32)), .val (.ref b1), .unset, .unset, .unset] [(.int (0 : Int32))])) _
    refine st2 _ ?_
    show Steps p.tables e below (T2.setTop (mkF m 63 #[.val (.int p0), .val (.int p1), .val (.int (0 : Int32)), .val (.int (0 : Int32)), .val (.ref b1), .unset, .unset, .unset] [(.ref a_READ)])) _
    refine XS.astore X2.here hx rfl (hb hby at_63) rfl rfl (l' := #[.val (.int p0), .val (.int p1), .val (.int (0 : Int32)), .val (.int (0 : Int32)), .val (.ref b1), .val (.ref a_READ), .unset, .unset]) rfl ?_
    show Steps p.tables e below (T2.setTop (mkF m 65 #[.val (.int p0), .val (.int p1), .val (.int (0 : Int32)), .val (.int (0 : Int32)), .val (.ref b1), .val (.ref a_READ), .unset, .unset] [])) _
    refine XS.iloadN X2.here hx rfl (hb hby at_65) rfl ?_
    show Steps p.tables e below (T2.setTop (mkF m 66 #[.val (.int p0), .val (.int p1), .val (.int (0 : Int32)), .val (.int (0 : Int32)), .val (.ref b1), .val (.ref a_READ), .unset, .unset] [(.int (0 : Int32))])) _
    refine st3 _ ?_
    show Steps p.tables e below (T3.setTop (mkF m 69 #[.val (.int p0), .val (.int p1), .val (.int (0 : Int32)), .val (.int (0 : Int32)), .val (.ref b1), .val (.ref a_READ), .unset, .unset] [(.ref a_READ)])) _
    refine XS.astore X3.here hx rfl (hb hby at_69) rfl rfl (l' := #[.val (.int p0), .val (.int p1), .val (.int (0 : Int32)), .val (.int (0 : Int32)), .val (.ref b1), .val (.ref a_READ), .val (.ref a_READ), .unset]) rfl ?_
    show Steps p.tables e below (T3.setTop (mkF m 71 #[.val (.int p0), .val (.int p1), .val (.int (0 : Int32)), .val (.int (0 : Int32)), .val (.ref b1), .val (.ref a_READ), .val (.ref a_READ), .unset] [])) _
    refine XS.aload X3.here hx rfl (hb hby at_71) rfl rfl ?_
    show Steps p.tables e below (T3.setTop (mkF m 73 #[.val (.int p0), .val (.int p1), .val (.int (0 : Int32)), .val (.int (0 : Int32)), .val (.ref b1), .val (.ref a_READ), .val (.ref a_READ), .unset] [(.ref a_READ)])) _
    refine XS.aload X3.here hx rfl (hb hby at_73) rfl rfl ?_
    show Steps p.tables e below (T3.setTop (mkF m 75 #[.val (.int p0), .val (.int p1), .val (.int (0 : Int32)), .val (.int (0 : Int32)), .val (.ref b1), .val (.ref a_READ), .val (.ref a_READ), .unset] [(.ref a_READ), (.ref a_READ)])) _
    refine st4.trans ?_
    show Steps p.tables e below (T4.setTop (mkF m 78 #[.val (.int p0), .val (.int p1), .val (.int (0 : Int32)), .val (.int (0 : Int32)), .val (.ref b1), .val (.ref a_READ), .val (.ref a_READ), .unset] [(.int (1 : Int32))])) _
    refine XS.istore X4.here hx rfl (hb hby at_78) rfl (l' := #[.val (.int p0), .val (.int p1), .val (.int (0 : Int32)), .val (.int (0 : Int32)), .val (.ref b1), .val (.ref a_READ), .val (.ref a_READ), .val (.int (1 : Int32))]) rfl ?_
    show Steps p.tables e below (T4.setTop (mkF m 80 #[.val (.int p0), .val (.int p1), .val (.int (0 : Int32)), .val (.int (0 : Int32)), .val (.ref b1), .val (.ref a_READ), .val (.ref a_READ), .val (.int (1 : Int32))] [])) _
    refine XS.iload X4.here hx rfl (hb hby at_80) rfl ?_
    show Steps p.tables e below (T4.setTop (mkF m 82 #[.val (.int p0), .val (.int p1), .val (.int (0 : Int32)), .val (.int (0 : Int32)), .val (.ref b1), .val (.ref a_READ), .val (.ref a_READ), .val (.int (1 : Int32))] [(.int (1 : Int32))])) _
    refine XS.aload X4.here hx rfl (hb hby at_82) rfl rfl ?_
    show Steps p.tables e below (T4.setTop (mkF m 84 #[.val (.int p0), .val (.int p1), .val (.int (0 : Int32)), .val (.int (0 : Int32)), .val (.ref b1), .val (.ref a_READ), .val (.ref a_READ), .val (.int (1 : Int32))] [(.ref b1), (.int (1 : Int32))])) _
    refine XS.iloadN X4.here hx rfl (hb hby at_84) rfl ?_
    show Steps p.tables e below (T4.setTop (mkF m 85 #[.val (.int p0), .val (.int p1), .val (.int (0 : Int32)), .val (.int (0 : Int32)), .val (.ref b1), .val (.ref a_READ), .val (.ref a_READ), .val (.int (1 : Int32))] [(.int (0 : Int32)), (.ref b1), (.int (1 : Int32))])) _
    refine XS.iconst X4.here hx rfl (hb hby at_85) ?_
    show Steps p.tables e below (T4.setTop (mkF m 86 #[.val (.int p0), .val (.int p1), .val (.int (0 : Int32)), .val (.int (0 : Int32)), .val (.ref b1), .val (.ref a_READ), .val (.ref a_READ), .val (.int (1 : Int32))] [(.int (3 : Int32)), (.int (0 : Int32)), (.ref b1), (.int (1 : Int32))])) _
    refine XS.imul X4.here hx rfl (hb hby at_86) rfl ?_
    show Steps p.tables e below (T4.setTop (mkF m 87 #[.val (.int p0), .val (.int p1), .val (.int (0 : Int32)), .val (.int (0 : Int32)), .val (.ref b1), .val (.ref a_READ), .val (.ref a_READ), .val (.int (1 : Int32))] [(.int ((0 : Int32) * (3 : Int32))), (.ref b1), (.int (1 : Int32))])) _
    rw [(by decide : ((0 : Int32) * (3 : Int32)) = (0 : Int32))]
    show Steps p.tables e below (T4.setTop (mkF m 87 #[.val (.int p0), .val (.int p1), .val (.int (0 : Int32)), .val (.int (0 : Int32)), .val (.ref b1), .val (.ref a_READ), .val (.ref a_READ), .val (.int (1 : Int32))] [(.int (0 : Int32)), (.ref b1), (.int (1 : Int32))])) _
    refine XS.iloadN X4.here hx rfl (hb hby at_87) rfl ?_
    show Steps p.tables e below (T4.setTop (mkF m 88 #[.val (.int p0), .val (.int p1), .val (.int (0 : Int32)), .val (.int (0 : Int32)), .val (.ref b1), .val (.ref a_READ), .val (.ref a_READ), .val (.int (1 : Int32))] [(.int (0 : Int32)), (.int (0 : Int32)), (.ref b1), (.int (1 : Int32))])) _
    refine XS.iadd X4.here hx rfl (hb hby at_88) rfl ?_
    show Steps p.tables e below (T4.setTop (mkF m 89 #[.val (.int p0), .val (.int p1), .val (.int (0 : Int32)), .val (.int (0 : Int32)), .val (.ref b1), .val (.ref a_READ), .val (.ref a_READ), .val (.int (1 : Int32))] [(.int ((0 : Int32) + (0 : Int32))), (.ref b1), (.int (1 : Int32))])) _
    rw [(by decide : ((0 : Int32) + (0 : Int32)) = (0 : Int32))]
    show Steps p.tables e below (T4.setTop (mkF m 89 #[.val (.int p0), .val (.int p1), .val (.int (0 : Int32)), .val (.int (0 : Int32)), .val (.ref b1), .val (.ref a_READ), .val (.ref a_READ), .val (.int (1 : Int32))] [(.int (0 : Int32)), (.ref b1), (.int (1 : Int32))])) _
    refine X4.baloadBooleans hx (j := (0 : Int32)) (v := (.int (1 : Int32))) (by rw [e4]; exact r5.1) (State.isArrayOf_alike hZ.alike r5.2.1) r5.2.2 i5 y5 (g := (mkF m 89 #[.val (.int p0), .val (.int p1), .val (.int (0 : Int32)), .val (.int (0 : Int32)), .val (.ref b1), .val (.ref a_READ), .val (.ref a_READ), .val (.int (1 : Int32))] [(.int (0 : Int32)), (.ref b1), (.int (1 : Int32))])) rfl rfl (hb hby at_89) _ ?_
    show Steps p.tables e below (T4.setTop (mkF m 90 #[.val (.int p0), .val (.int p1), .val (.int (0 : Int32)), .val (.int (0 : Int32)), .val (.ref b1), .val (.ref a_READ), .val (.ref a_READ), .val (.int (1 : Int32))] [(.int (1 : Int32)), (.int (1 : Int32))])) _
    refine XS.icmpNo X4.here hx rfl (hb hby at_90) rfl (by decide) ?_
    show Steps p.tables e below (T4.setTop (mkF m 93 #[.val (.int p0), .val (.int p1), .val (.int (0 : Int32)), .val (.int (0 : Int32)), .val (.ref b1), .val (.ref a_READ), .val (.ref a_READ), .val (.int (1 : Int32))] [])) _
    refine XS.iconst X4.here hx rfl (hb hby at_93) ?_
    show Steps p.tables e below (T4.setTop (mkF m 94 #[.val (.int p0), .val (.int p1), .val (.int (0 : Int32)), .val (.int (0 : Int32)), .val (.ref b1), .val (.ref a_READ), .val (.ref a_READ), .val (.int (1 : Int32))] [(.int (1 : Int32))])) _
    refine XS.goto X4.here hx rfl (pc0 := 94) (pc' := 98) rfl (hb hby at_94) (by decide) (by decide) ?_
    show Steps p.tables e below (T4.setTop (mkF m 98 #[.val (.int p0), .val (.int p1), .val (.int (0 : Int32)), .val (.int (0 : Int32)), .val (.ref b1), .val (.ref a_READ), .val (.ref a_READ), .val (.int (1 : Int32))] [(.int (1 : Int32))])) _
    exact retN X4 hx (t := .boolean) Bd.returns (by simp) (hb hby at_98) hr
  · exact ⟨rfl, N4⟩
set_option maxRecDepth 65536 in
set_option maxHeartbeats 40000000 in
theorem rm1_1 (l : Launch) (Z : State) (a0 : Array Value) (hw : ∀ d ∈ tables_1, d.before a0 Z = true) (ws : List Jvm.Cond) (p0 p1 : Int32) (a_READ a_WRITE a_UPGRADE : Addr) (h0 : Heap) (n0 : Nat) (Z0 : n0 ≤ h0.size) (FF : Facts Z h0 a_READ a_WRITE a_UPGRADE) :
    MetFree l (⟨"com/example/gridlok/gridlok/model/LockModeCoversPinLaw", "mode", "(I)Lcom/example/gridlok/gridlok/model/LockMode;"⟩ : MethodName) (head1 (Jvm.Cond.code (⟨"com/example/gridlok/gridlok/model/LockModeCoversPinLaw", "mode", "(I)Lcom/example/gridlok/gridlok/model/LockMode;"⟩ : MethodName) method_2_code 1 (some (.object "com/example/gridlok/gridlok/model/LockMode")) :: ws) ({ frames := 0, cells := 0, slots := 0, locals := 0 } : Room)) (fun a U => a = #[(.int (1 : Int32))] ∧ Z.Warmed39 U.vm ∧ U.heap = h0) (fun _ _ _ _ _ => True) (fun _ U o U' => ∃ v L, o = .returned v ∧ own_Q (.ref a_UPGRADE) h0 n0 v U'.heap L ∧ FrameEnd U o U' L ({ frames := 0, cells := 0, slots := 0, locals := 0 } : Room).cells ({ frames := 0, cells := 0, slots := 0, locals := 0 } : Room).slots) := by
  refine MetFree.of_bodySF (plainFor_of_name pn_1) hisR ?_
  intro p e s m args below meth c s₁ Bd hml0 hP hK
  obtain ⟨rfl, hZ, hh⟩ := hP
  have hx := Bd.exec
  have hby := Bd.bytes
  have hml : c.maxLocals = 1 := hml0
  have hown : s.vm.findClass "com/example/gridlok/gridlok/model/LockModeCoversPinLaw" = some m.cls := findClass_of_methodNamed Bd.named
  have X0 : Stand p l e ({ frames := 0, cells := 0, slots := 0, locals := 0 } : Room) s m #[(.int (1 : Int32))] below meth c s₁ [] 0 0 := Stand.of_body Bd
  have e0 : s₁.heap = h0 := by rw [← hh, Bd.state]; rfl
  have N0 := Fr.nil n0
  have pre0 : ∀ t, Steps p.tables e below (s₁.setTop (mkF m 0 #[.val (.int (1 : Int32))] [])) t → Steps p.tables e below (s₁.setTop (entryFrame m #[(.int (1 : Int32))] 1)) t := fun t k => castTop (ef_1 m (1 : Int32)) k
  obtain ⟨T1, X1, e1, st1⟩ := getS2 X0 hx hZ hown (host := "") (Or.inl (hw _ (List.mem_of_getElem? (i := 17) rfl))) Via.refl e0 (fx_S_UPGRADE FF) (g := (mkF m 13 #[.val (.int (1 : Int32))] [])) rfl (hb hby d1_13)
  obtain ⟨fs, hr, hrun, hended, hW, hsame⟩ := X1.leave (v := some (.ref a_UPGRADE)) (fun h => by rw [Bd.returns] at h; cases h)
  refine ⟨_, _, pre0 _ ?_, hrun, hended, _, _, rfl, ?_, ⟨_, rfl⟩, hW, hsame.mono (by decide) (by decide)⟩
  · show Steps p.tables e below (s₁.setTop (mkF m 0 #[.val (.int (1 : Int32))] [])) _
    refine XS.iloadN X0.here hx rfl (hb hby d1_0) rfl ?_
    show Steps p.tables e below (s₁.setTop (mkF m 1 #[.val (.int (1 : Int32))] [(.int (1 : Int32))])) _
    refine XS.ifYes X0.here hx rfl (pc0 := 1) (pc' := 8) rfl (hb hby d1_1) rfl (by decide) (by decide) (by decide) ?_
    show Steps p.tables e below (s₁.setTop (mkF m 8 #[.val (.int (1 : Int32))] [])) _
    refine XS.iloadN X0.here hx rfl (hb hby d1_8) rfl ?_
    show Steps p.tables e below (s₁.setTop (mkF m 9 #[.val (.int (1 : Int32))] [(.int (1 : Int32))])) _
    refine XS.iconst X0.here hx rfl (hb hby d1_9) ?_
    show Steps p.tables e below (s₁.setTop (mkF m 10 #[.val (.int (1 : Int32))] [(.int (1 : Int32)), (.int (1 : Int32))])) _
    refine XS.icmpNo X0.here hx rfl (hb hby d1_10) rfl (by decide) ?_
    show Steps p.tables e below (s₁.setTop (mkF m 13 #[.val (.int (1 : Int32))] [])) _
    refine st1 _ ?_
    show Steps p.tables e below (T1.setTop (mkF m 16 #[.val (.int (1 : Int32))] [(.ref a_UPGRADE)])) _
    exact retOut X1 hx Bd.returns rfl (Or.inr (Or.inr (Or.inr (Or.inr ⟨rfl, rfl, rfl⟩)))) (hb hby d1_16) hr
  · show own_Q _ _ _ _ T1.heap _
    exact ⟨rfl, N0, e1⟩
set_option maxRecDepth 65536 in
set_option maxHeartbeats 40000000 in
theorem rm2_1 (l : Launch) (Z : State) (a0 : Array Value) (hw : ∀ d ∈ tables_1, d.before a0 Z = true) (ws : List Jvm.Cond) (p0 p1 : Int32) (a_READ a_WRITE a_UPGRADE : Addr) (h0 : Heap) (n0 : Nat) (Z0 : n0 ≤ h0.size) (FF : Facts Z h0 a_READ a_WRITE a_UPGRADE) :
    MetFree l (⟨"com/example/gridlok/gridlok/model/LockMode", "covers", "(Lcom/example/gridlok/gridlok/model/LockMode;)Z"⟩ : MethodName) (head1 (Jvm.Cond.code (⟨"com/example/gridlok/gridlok/model/LockMode", "covers", "(Lcom/example/gridlok/gridlok/model/LockMode;)Z"⟩ : MethodName) prog_9_method_5_code 2 (some .boolean) :: ws) ({ frames := 0, cells := 0, slots := 0, locals := 0 } : Room)) (fun a U => a = #[(.ref a_READ), (.ref a_UPGRADE)] ∧ Z.Warmed39 U.vm ∧ U.heap = h0) (fun _ _ _ _ _ => True) (fun _ U o U' => ∃ v L, o = .returned v ∧ own_Q (.int (0 : Int32)) h0 n0 v U'.heap L ∧ FrameEnd U o U' L ({ frames := 0, cells := 0, slots := 0, locals := 0 } : Room).cells ({ frames := 0, cells := 0, slots := 0, locals := 0 } : Room).slots) := by
  refine MetFree.of_bodySF (plainFor_of_name pn_2) hisR ?_
  intro p e s m args below meth c s₁ Bd hml0 hP hK
  obtain ⟨rfl, hZ, hh⟩ := hP
  have hx := Bd.exec
  have hby := Bd.bytes
  have hml : c.maxLocals = 2 := hml0
  have hown : s.vm.findClass "com/example/gridlok/gridlok/model/LockMode" = some m.cls := findClass_of_methodNamed Bd.named
  have X0 : Stand p l e ({ frames := 0, cells := 0, slots := 0, locals := 0 } : Room) s m #[(.ref a_READ), (.ref a_UPGRADE)] below meth c s₁ [] 0 0 := Stand.of_body Bd
  have e0 : s₁.heap = h0 := by rw [← hh, Bd.state]; rfl
  have N0 := Fr.nil n0
  have pre0 : ∀ t, Steps p.tables e below (s₁.setTop (mkF m 0 #[.val (.ref a_READ), .val (.ref a_UPGRADE)] [])) t → Steps p.tables e below (s₁.setTop (entryFrame m #[(.ref a_READ), (.ref a_UPGRADE)] 2)) t := fun t k => castTop (ef_2 m a_READ a_UPGRADE) k
  obtain ⟨T1, X1, e1, st1⟩ := getS2 X0 hx hZ hown (host := "") (Or.inl (hw _ (List.mem_of_getElem? (i := 14) rfl))) Via.refl e0 (fx_S_WRITE FF) (g := (mkF m 1 #[.val (.ref a_READ), .val (.ref a_UPGRADE)] [(.ref a_READ)])) rfl (hb hby d2_1)
  obtain ⟨fs, hr, hrun, hended, hW, hsame⟩ := X1.leave (v := some (.int (0 : Int32))) (fun h => by rw [Bd.returns] at h; cases h)
  refine ⟨_, _, pre0 _ ?_, hrun, hended, _, _, rfl, ?_, ⟨_, rfl⟩, hW, hsame.mono (by decide) (by decide)⟩
  · show Steps p.tables e below (s₁.setTop (mkF m 0 #[.val (.ref a_READ), .val (.ref a_UPGRADE)] [])) _
    refine XS.aloadN X0.here hx rfl (hb hby d2_0) rfl rfl ?_
    show Steps p.tables e below (s₁.setTop (mkF m 1 #[.val (.ref a_READ), .val (.ref a_UPGRADE)] [(.ref a_READ)])) _
    refine st1 _ ?_
    show Steps p.tables e below (T1.setTop (mkF m 4 #[.val (.ref a_READ), .val (.ref a_UPGRADE)] [(.ref a_WRITE), (.ref a_READ)])) _
    refine Jvm.RoadKit.acmp (g := (mkF m 4 #[.val (.ref a_READ), .val (.ref a_UPGRADE)] [(.ref a_WRITE), (.ref a_READ)])) X1 hx rfl rfl rfl (pc0 := 4) (pc' := 7) (same := false) rfl (hb hby d2_4) rfl (decide_eq_false fun q => Fld.ne (fx_F_READ_ordinal FF) (fx_F_WRITE_ordinal FF) (by decide) (Value.ref.inj q)) (by decide) (by decide) ?_
    show Steps p.tables e below (T1.setTop (mkF m 7 #[.val (.ref a_READ), .val (.ref a_UPGRADE)] [])) _
    refine XS.aloadN X1.here hx rfl (hb hby d2_7) rfl rfl ?_
    show Steps p.tables e below (T1.setTop (mkF m 8 #[.val (.ref a_READ), .val (.ref a_UPGRADE)] [(.ref a_READ)])) _
    refine XS.aloadN X1.here hx rfl (hb hby d2_8) rfl rfl ?_
    show Steps p.tables e below (T1.setTop (mkF m 9 #[.val (.ref a_READ), .val (.ref a_UPGRADE)] [(.ref a_UPGRADE), (.ref a_READ)])) _
    refine Jvm.RoadKit.acmp (g := (mkF m 9 #[.val (.ref a_READ), .val (.ref a_UPGRADE)] [(.ref a_UPGRADE), (.ref a_READ)])) X1 hx rfl rfl rfl (pc0 := 9) (pc' := 16) (same := false) rfl (hb hby d2_9) rfl (decide_eq_false fun q => Fld.ne (fx_F_READ_ordinal FF) (fx_F_UPGRADE_ordinal FF) (by decide) (Value.ref.inj q)) (by decide) (by decide) ?_
    show Steps p.tables e below (T1.setTop (mkF m 16 #[.val (.ref a_READ), .val (.ref a_UPGRADE)] [])) _
    refine XS.iconst X1.here hx rfl (hb hby d2_16) ?_
    show Steps p.tables e below (T1.setTop (mkF m 17 #[.val (.ref a_READ), .val (.ref a_UPGRADE)] [(.int (0 : Int32))])) _
    exact retN X1 hx (t := .boolean) Bd.returns (by simp) (hb hby d2_17) hr
  · show own_Q _ _ _ _ T1.heap _
    exact ⟨rfl, N0, e1⟩
set_option maxRecDepth 65536 in
set_option maxHeartbeats 40000000 in
theorem rm0_1 (l : Launch) (Z : State) (a0 : Array Value) (hw : ∀ d ∈ tables_1, d.before a0 Z = true) (ws : List Jvm.Cond) (p0 p1 : Int32) (a_READ a_WRITE a_UPGRADE : Addr) (h0 : Heap) (n0 : Nat) (Z0 : n0 ≤ h0.size) (FF : Facts Z h0 a_READ a_WRITE a_UPGRADE) (hk0 : ((p0 &&& (2147483647 : Int32)) % (3 : Int32)) = (0 : Int32)) (hk1 : ((p1 &&& (2147483647 : Int32)) % (3 : Int32)) = (1 : Int32)) :
    MetFree l x (head1 (Jvm.Cond.code x code maxLocals ret :: ws) room_1) (fun a U => a = #[(.int p0), (.int p1)] ∧ Z.Warmed39 U.vm ∧ U.heap = h0) (fun _ _ _ _ _ => True) (fun _ U o U' => ∃ v L, o = .returned v ∧ (v = some (.int (1 : Int32)) ∧ Fr n0 L) ∧ FrameEnd U o U' L room_1.cells room_1.slots) := by
  refine MetFree.of_bodySF (plainFor_of_name pn_0) hisR ?_
  intro p e s m args below meth c s₁ Bd hml0 hP hK
  obtain ⟨rfl, hZ, hh⟩ := hP
  have hx := Bd.exec
  have hby := Bd.bytes
  have hml : c.maxLocals = 8 := hml0
  have hown : s.vm.findClass "com/example/gridlok/gridlok/model/LockModeCoversPinLaw" = some m.cls := findClass_of_methodNamed Bd.named
  have X0 : Stand p l e room_1 s m #[(.int p0), (.int p1)] below meth c s₁ [] 0 0 := Stand.of_body Bd
  have e0 : s₁.heap = h0 := by rw [← hh, Bd.state]; rfl
  have N0 := Fr.nil n0
  have pre0 : ∀ t, Steps p.tables e below (s₁.setTop (mkF m 0 #[.val (.int p0), .val (.int p1), .unset, .unset, .unset, .unset, .unset, .unset] [])) t → Steps p.tables e below (s₁.setTop (entryFrame m #[(.int p0), (.int p1)] maxLocals)) t := fun t k => castTop (ef_0 m p0 p1) k
  obtain ⟨T1, h1, b1, k1, lc1, X1, e1, s_b1, z1, N1, FF1, V1, st1⟩ := seg_0 (l := l) (Z := Z) hw a_READ a_WRITE a_UPGRADE p0 p1 (0 : Int32) (1 : Int32) X0 hx hZ hby hml hown e0 Z0 N0 FF
  obtain ⟨_, _, ⟨T2, L2, k2, n2⟩, -, X2, ⟨Lc2, hQ2, l2, y2, z2⟩, st2⟩ := Jvm.LawKit.callS X1 hx (y := (⟨"com/example/gridlok/gridlok/model/LockModeCoversPinLaw", "mode", "(I)Lcom/example/gridlok/gridlok/model/LockMode;"⟩ : MethodName)) hown (mvT hZ (hw _ (List.mem_of_getElem? (i := 2) rfl))) (mvT hZ (hw _ (List.mem_of_getElem? (i := 3) rfl))) (mvT hZ (hw _ (List.mem_of_getElem? (i := 4) rfl))) (mvT hZ (hw _ (List.mem_of_getElem? (i := 5) rfl))) (by decide) (backOf (W := 0) (rm1_0 l Z a0 hw [] p0 p1 a_READ a_WRITE a_UPGRADE h1 n0 (Nat.le_trans Z0 z1) FF1) hZ (hw _ (List.mem_of_getElem? (i := 5) rfl)) (hw _ (List.mem_of_getElem? (i := 4) rfl)) (by decide) (by decide)) (g := (mkF m 60 #[.val (.int p0), .val (.int p1), .val (.int (0 : Int32)), .val (.int (1 : Int32)), .val (.ref b1), .unset, .unset, .unset] [(.int (0 : Int32))])) rfl (by rw [hml]; rfl) (argsL := [(.int (0 : Int32))]) (rest := []) (lenOf pd_0 rfl) rfl (by show 2 * 0 + _ ≤ _; exact Nat.le_of_eq rfl) (hb hby at_60) (fun _ _ => ⟨rfl, e1, (by decide : 1 + 0 ≤ _), (by decide : 9 + 0 ≤ _)⟩)
  dsimp only [Pt.U, Pt.locs, Pt.cells, Pt.slots] at X2 l2 y2 z2 st2 hQ2
  subst l2 y2 z2
  obtain ⟨rfl, N2q, e2⟩ := hQ2
  have N2 := Fr.app N1 N2q
  obtain ⟨_, _, ⟨T3, L3, k3, n3⟩, -, X3, ⟨Lc3, hQ3, l3, y3, z3⟩, st3⟩ := Jvm.LawKit.callS X2 hx (y := (⟨"com/example/gridlok/gridlok/model/LockModeCoversPinLaw", "mode", "(I)Lcom/example/gridlok/gridlok/model/LockMode;"⟩ : MethodName)) hown (mvT hZ (hw _ (List.mem_of_getElem? (i := 2) rfl))) (mvT hZ (hw _ (List.mem_of_getElem? (i := 3) rfl))) (mvT hZ (hw _ (List.mem_of_getElem? (i := 4) rfl))) (mvT hZ (hw _ (List.mem_of_getElem? (i := 5) rfl))) (by decide) (backOf (W := 0) (rm1_1 l Z a0 hw [] p0 p1 a_READ a_WRITE a_UPGRADE h1 n0 (Nat.le_trans Z0 z1) FF1) hZ (hw _ (List.mem_of_getElem? (i := 5) rfl)) (hw _ (List.mem_of_getElem? (i := 4) rfl)) (by decide) (by decide)) (g := (mkF m 66 #[.val (.int p0), .val (.int p1), .val (.int (0 : Int32)), .val (.int (1 : Int32)), .val (.ref b1), .val (.ref a_READ), .unset, .unset] [(.int (1 : Int32))])) rfl (by rw [hml]; rfl) (argsL := [(.int (1 : Int32))]) (rest := []) (lenOf pd_0 rfl) rfl (by show 2 * 0 + _ ≤ _; exact Nat.le_of_eq rfl) (hb hby at_66) (fun _ _ => ⟨rfl, e2, (by decide : 1 + 0 ≤ _), (by decide : 9 + 0 ≤ _)⟩)
  dsimp only [Pt.U, Pt.locs, Pt.cells, Pt.slots] at X3 l3 y3 z3 st3 hQ3
  subst l3 y3 z3
  obtain ⟨rfl, N3q, e3⟩ := hQ3
  have N3 := Fr.app N2 N3q
  obtain ⟨cq4, kq4, q4a, q4b, q4c⟩ := isOf hZ e3 (fx_E_READ FF1)
  obtain ⟨_, _, ⟨T4, L4, k4, n4⟩, -, X4, ⟨Lc4, hQ4, l4, y4, z4⟩, st4⟩ := X3.virtualBack hx (y := (⟨"com/example/gridlok/gridlok/model/LockMode", "covers", "(Lcom/example/gridlok/gridlok/model/LockMode;)Z"⟩ : MethodName)) (z := (⟨"com/example/gridlok/gridlok/model/LockMode", "covers", "(Lcom/example/gridlok/gridlok/model/LockMode;)Z"⟩ : MethodName)) hown (mvT hZ (hw _ (List.mem_of_getElem? (i := 9) rfl))) (mvT hZ (hw _ (List.mem_of_getElem? (i := 10) rfl))) (notFace_of_selects (args := #[]) (mvT hZ (hw _ (List.mem_of_getElem? (i := 12) rfl)))) (mvT hZ (hw _ (List.mem_of_getElem? (i := 12) rfl))) (mvT hZ (hw _ (List.mem_of_getElem? (i := 11) rfl))) (by decide) (backOf (W := 0) (rm2_1 l Z a0 hw [] p0 p1 a_READ a_WRITE a_UPGRADE h1 n0 (Nat.le_trans Z0 z1) FF1) hZ (hw _ (List.mem_of_getElem? (i := 13) rfl)) (hw _ (List.mem_of_getElem? (i := 7) rfl)) (by decide) (by decide)) q4a q4c (g := (mkF m 75 #[.val (.int p0), .val (.int p1), .val (.int (0 : Int32)), .val (.int (1 : Int32)), .val (.ref b1), .val (.ref a_READ), .val (.ref a_UPGRADE), .unset] [(.ref a_UPGRADE), (.ref a_READ)])) rfl (by rw [hml]; rfl) (Steps.refl _) (argsL := [(.ref a_UPGRADE)]) (rest := []) (lenOf pd_1 rfl) rfl (by show 2 * 0 + _ ≤ _; exact Nat.le_of_eq rfl) (hb hby at_75) (fun _ _ => ⟨rfl, e3, (by decide : 1 + 0 ≤ _), (by decide : 9 + 0 ≤ _)⟩)
  dsimp only [Pt.U, Pt.locs, Pt.cells, Pt.slots] at X4 l4 y4 z4 st4 hQ4
  subst l4 y4 z4
  obtain ⟨rfl, N4q, e4⟩ := hQ4
  have N4 := Fr.app N3 N4q
  obtain ⟨c5, r5, -, S5, -, H5, -⟩ := V1
  have i5 : ¬ ((1 : Int32) < 0 ∨ c5.slots.size ≤ ((1 : Int32)).toNatClampNeg) := inb_of S5 ⟨by decide, by decide⟩
  have y5 : c5.slots[((1 : Int32)).toNatClampNeg]? = some (.int (0 : Int32)) := H5 1 (by rw [S5]; decide)
  obtain ⟨fs, hr, hrun, hended, hW, hsame⟩ := X4.leave (v := some (.int (1 : Int32))) (fun h => by rw [Bd.returns] at h; cases h)
  refine ⟨_, _, pre0 _ ?_, hrun, hended, _, _, rfl, ?_, ⟨_, rfl⟩, hW, hsame.mono (by decide) (by decide)⟩
  · show Steps p.tables e below (s₁.setTop (mkF m 0 #[.val (.int p0), .val (.int p1), .unset, .unset, .unset, .unset, .unset, .unset] [])) _
    refine XS.iloadN X0.here hx rfl (hb hby at_0) rfl ?_
    show Steps p.tables e below (s₁.setTop (mkF m 1 #[.val (.int p0), .val (.int p1), .unset, .unset, .unset, .unset, .unset, .unset] [(.int p0)])) _
    refine X0.ldcInt hx hown (mvT hZ (hw _ (List.mem_of_getElem? (i := 0) rfl))) (g := (mkF m 1 #[.val (.int p0), .val (.int p1), .unset, .unset, .unset, .unset, .unset, .unset] [(.int p0)])) rfl (hb hby at_1) _ ?_
    show Steps p.tables e below (s₁.setTop (mkF m 3 #[.val (.int p0), .val (.int p1), .unset, .unset, .unset, .unset, .unset, .unset] [(.int (2147483647 : Int32)), (.int p0)])) _
    refine XS.iand X0.here hx rfl (hb hby at_3) rfl ?_
    show Steps p.tables e below (s₁.setTop (mkF m 4 #[.val (.int p0), .val (.int p1), .unset, .unset, .unset, .unset, .unset, .unset] [(.int (p0 &&& (2147483647 : Int32)))])) _
    refine XS.iconst X0.here hx rfl (hb hby at_4) ?_
    show Steps p.tables e below (s₁.setTop (mkF m 5 #[.val (.int p0), .val (.int p1), .unset, .unset, .unset, .unset, .unset, .unset] [(.int (3 : Int32)), (.int (p0 &&& (2147483647 : Int32)))])) _
    refine iremM X0 hx rfl (hb hby at_5) rfl (by decide) ?_
    show Steps p.tables e below (s₁.setTop (mkF m 6 #[.val (.int p0), .val (.int p1), .unset, .unset, .unset, .unset, .unset, .unset] [(.int ((p0 &&& (2147483647 : Int32)) % (3 : Int32)))])) _
    rw [hk0]
    show Steps p.tables e below (s₁.setTop (mkF m 6 #[.val (.int p0), .val (.int p1), .unset, .unset, .unset, .unset, .unset, .unset] [(.int (0 : Int32))])) _
    refine XS.istoreN X0.here hx rfl (hb hby at_6) rfl (l' := #[.val (.int p0), .val (.int p1), .val (.int (0 : Int32)), .unset, .unset, .unset, .unset, .unset]) rfl ?_
    show Steps p.tables e below (s₁.setTop (mkF m 7 #[.val (.int p0), .val (.int p1), .val (.int (0 : Int32)), .unset, .unset, .unset, .unset, .unset] [])) _
    refine XS.iloadN X0.here hx rfl (hb hby at_7) rfl ?_
    show Steps p.tables e below (s₁.setTop (mkF m 8 #[.val (.int p0), .val (.int p1), .val (.int (0 : Int32)), .unset, .unset, .unset, .unset, .unset] [(.int p1)])) _
    refine X0.ldcInt hx hown (mvT hZ (hw _ (List.mem_of_getElem? (i := 0) rfl))) (g := (mkF m 8 #[.val (.int p0), .val (.int p1), .val (.int (0 : Int32)), .unset, .unset, .unset, .unset, .unset] [(.int p1)])) rfl (hb hby at_8) _ ?_
    show Steps p.tables e below (s₁.setTop (mkF m 10 #[.val (.int p0), .val (.int p1), .val (.int (0 : Int32)), .unset, .unset, .unset, .unset, .unset] [(.int (2147483647 : Int32)), (.int p1)])) _
    refine XS.iand X0.here hx rfl (hb hby at_10) rfl ?_
    show Steps p.tables e below (s₁.setTop (mkF m 11 #[.val (.int p0), .val (.int p1), .val (.int (0 : Int32)), .unset, .unset, .unset, .unset, .unset] [(.int (p1 &&& (2147483647 : Int32)))])) _
    refine XS.iconst X0.here hx rfl (hb hby at_11) ?_
    show Steps p.tables e below (s₁.setTop (mkF m 12 #[.val (.int p0), .val (.int p1), .val (.int (0 : Int32)), .unset, .unset, .unset, .unset, .unset] [(.int (3 : Int32)), (.int (p1 &&& (2147483647 : Int32)))])) _
    refine iremM X0 hx rfl (hb hby at_12) rfl (by decide) ?_
    show Steps p.tables e below (s₁.setTop (mkF m 13 #[.val (.int p0), .val (.int p1), .val (.int (0 : Int32)), .unset, .unset, .unset, .unset, .unset] [(.int ((p1 &&& (2147483647 : Int32)) % (3 : Int32)))])) _
    rw [hk1]
    show Steps p.tables e below (s₁.setTop (mkF m 13 #[.val (.int p0), .val (.int p1), .val (.int (0 : Int32)), .unset, .unset, .unset, .unset, .unset] [(.int (1 : Int32))])) _
    refine XS.istoreN X0.here hx rfl (hb hby at_13) rfl (l' := #[.val (.int p0), .val (.int p1), .val (.int (0 : Int32)), .val (.int (1 : Int32)), .unset, .unset, .unset, .unset]) rfl ?_
    show Steps p.tables e below (s₁.setTop (mkF m 14 #[.val (.int p0), .val (.int p1), .val (.int (0 : Int32)), .val (.int (1 : Int32)), .unset, .unset, .unset, .unset] [])) _
    refine st1 _ ?_
    show Steps p.tables e below (T1.setTop (mkF m 59 #[.val (.int p0), .val (.int p1), .val (.int (0 : Int32)), .val (.int (1 : Int32)), .val (.ref b1), .unset, .unset, .unset] [])) _
    refine XS.iloadN X1.here hx rfl (hb hby at_59) rfl ?_
    show Steps p.tables e below (T1.setTop (mkF m 60 #[.val (.int p0), .val (.int p1), .val (.int (0 : Int32)), .val (.int (1 : Int32)), .val (.ref b1), .unset, .unset, .unset] [(.int (0 : Int32))])) _
    refine st2 _ ?_
    show Steps p.tables e below (T2.setTop (mkF m 63 #[.val (.int p0), .val (.int p1), .val (.int (0 : Int32)), .val (.int (1 : Int32)), .val (.ref b1), .unset, .unset, .unset] [(.ref a_READ)])) _
    refine XS.astore X2.here hx rfl (hb hby at_63) rfl rfl (l' := #[.val (.int p0), .val (.int p1), .val (.int (0 : Int32)), .val (.int (1 : Int32)), .val (.ref b1), .val (.ref a_READ), .unset, .unset]) rfl ?_
    show Steps p.tables e below (T2.setTop (mkF m 65 #[.val (.int p0), .val (.int p1), .val (.int (0 : Int32)), .val (.int (1 : Int32)), .val (.ref b1), .val (.ref a_READ), .unset, .unset] [])) _
    refine XS.iloadN X2.here hx rfl (hb hby at_65) rfl ?_
    show Steps p.tables e below (T2.setTop (mkF m 66 #[.val (.int p0), .val (.int p1), .val (.int (0 : Int32)), .val (.int (1 : Int32)), .val (.ref b1), .val (.ref a_READ), .unset, .unset] [(.int (1 : Int32))])) _
    refine st3 _ ?_
    show Steps p.tables e below (T3.setTop (mkF m 69 #[.val (.int p0), .val (.int p1), .val (.int (0 : Int32)), .val (.int (1 : Int32)), .val (.ref b1), .val (.ref a_READ), .unset, .unset] [(.ref a_UPGRADE)])) _
    refine XS.astore X3.here hx rfl (hb hby at_69) rfl rfl (l' := #[.val (.int p0), .val (.int p1), .val (.int (0 : Int32)), .val (.int (1 : Int32)), .val (.ref b1), .val (.ref a_READ), .val (.ref a_UPGRADE), .unset]) rfl ?_
    show Steps p.tables e below (T3.setTop (mkF m 71 #[.val (.int p0), .val (.int p1), .val (.int (0 : Int32)), .val (.int (1 : Int32)), .val (.ref b1), .val (.ref a_READ), .val (.ref a_UPGRADE), .unset] [])) _
    refine XS.aload X3.here hx rfl (hb hby at_71) rfl rfl ?_
    show Steps p.tables e below (T3.setTop (mkF m 73 #[.val (.int p0), .val (.int p1), .val (.int (0 : Int32)), .val (.int (1 : Int32)), .val (.ref b1), .val (.ref a_READ), .val (.ref a_UPGRADE), .unset] [(.ref a_READ)])) _
    refine XS.aload X3.here hx rfl (hb hby at_73) rfl rfl ?_
    show Steps p.tables e below (T3.setTop (mkF m 75 #[.val (.int p0), .val (.int p1), .val (.int (0 : Int32)), .val (.int (1 : Int32)), .val (.ref b1), .val (.ref a_READ), .val (.ref a_UPGRADE), .unset] [(.ref a_UPGRADE), (.ref a_READ)])) _
    refine st4.trans ?_
    show Steps p.tables e below (T4.setTop (mkF m 78 #[.val (.int p0), .val (.int p1), .val (.int (0 : Int32)), .val (.int (1 : Int32)), .val (.ref b1), .val (.ref a_READ), .val (.ref a_UPGRADE), .unset] [(.int (0 : Int32))])) _
    refine XS.istore X4.here hx rfl (hb hby at_78) rfl (l' := #[.val (.int p0), .val (.int p1), .val (.int (0 : Int32)), .val (.int (1 : Int32)), .val (.ref b1), .val (.ref a_READ), .val (.ref a_UPGRADE), .val (.int (0 : Int32))]) rfl ?_
    show Steps p.tables e below (T4.setTop (mkF m 80 #[.val (.int p0), .val (.int p1), .val (.int (0 : Int32)), .val (.int (1 : Int32)), .val (.ref b1), .val (.ref a_READ), .val (.ref a_UPGRADE), .val (.int (0 : Int32))] [])) _
    refine XS.iload X4.here hx rfl (hb hby at_80) rfl ?_
    show Steps p.tables e below (T4.setTop (mkF m 82 #[.val (.int p0), .val (.int p1), .val (.int (0 : Int32)), .val (.int (1 : Int32)), .val (.ref b1), .val (.ref a_READ), .val (.ref a_UPGRADE), .val (.int (0 : Int32))] [(.int (0 : Int32))])) _
    refine XS.aload X4.here hx rfl (hb hby at_82) rfl rfl ?_
    show Steps p.tables e below (T4.setTop (mkF m 84 #[.val (.int p0), .val (.int p1), .val (.int (0 : Int32)), .val (.int (1 : Int32)), .val (.ref b1), .val (.ref a_READ), .val (.ref a_UPGRADE), .val (.int (0 : Int32))] [(.ref b1), (.int (0 : Int32))])) _
    refine XS.iloadN X4.here hx rfl (hb hby at_84) rfl ?_
    show Steps p.tables e below (T4.setTop (mkF m 85 #[.val (.int p0), .val (.int p1), .val (.int (0 : Int32)), .val (.int (1 : Int32)), .val (.ref b1), .val (.ref a_READ), .val (.ref a_UPGRADE), .val (.int (0 : Int32))] [(.int (0 : Int32)), (.ref b1), (.int (0 : Int32))])) _
    refine XS.iconst X4.here hx rfl (hb hby at_85) ?_
    show Steps p.tables e below (T4.setTop (mkF m 86 #[.val (.int p0), .val (.int p1), .val (.int (0 : Int32)), .val (.int (1 : Int32)), .val (.ref b1), .val (.ref a_READ), .val (.ref a_UPGRADE), .val (.int (0 : Int32))] [(.int (3 : Int32)), (.int (0 : Int32)), (.ref b1), (.int (0 : Int32))])) _
    refine XS.imul X4.here hx rfl (hb hby at_86) rfl ?_
    show Steps p.tables e below (T4.setTop (mkF m 87 #[.val (.int p0), .val (.int p1), .val (.int (0 : Int32)), .val (.int (1 : Int32)), .val (.ref b1), .val (.ref a_READ), .val (.ref a_UPGRADE), .val (.int (0 : Int32))] [(.int ((0 : Int32) * (3 : Int32))), (.ref b1), (.int (0 : Int32))])) _
    rw [(by decide : ((0 : Int32) * (3 : Int32)) = (0 : Int32))]
    show Steps p.tables e below (T4.setTop (mkF m 87 #[.val (.int p0), .val (.int p1), .val (.int (0 : Int32)), .val (.int (1 : Int32)), .val (.ref b1), .val (.ref a_READ), .val (.ref a_UPGRADE), .val (.int (0 : Int32))] [(.int (0 : Int32)), (.ref b1), (.int (0 : Int32))])) _
    refine XS.iloadN X4.here hx rfl (hb hby at_87) rfl ?_
    show Steps p.tables e below (T4.setTop (mkF m 88 #[.val (.int p0), .val (.int p1), .val (.int (0 : Int32)), .val (.int (1 : Int32)), .val (.ref b1), .val (.ref a_READ), .val (.ref a_UPGRADE), .val (.int (0 : Int32))] [(.int (1 : Int32)), (.int (0 : Int32)), (.ref b1), (.int (0 : Int32))])) _
    refine XS.iadd X4.here hx rfl (hb hby at_88) rfl ?_
    show Steps p.tables e below (T4.setTop (mkF m 89 #[.val (.int p0), .val (.int p1), .val (.int (0 : Int32)), .val (.int (1 : Int32)), .val (.ref b1), .val (.ref a_READ), .val (.ref a_UPGRADE), .val (.int (0 : Int32))] [(.int ((0 : Int32) + (1 : Int32))), (.ref b1), (.int (0 : Int32))])) _
    rw [(by decide : ((0 : Int32) + (1 : Int32)) = (1 : Int32))]
    show Steps p.tables e below (T4.setTop (mkF m 89 #[.val (.int p0), .val (.int p1), .val (.int (0 : Int32)), .val (.int (1 : Int32)), .val (.ref b1), .val (.ref a_READ), .val (.ref a_UPGRADE), .val (.int (0 : Int32))] [(.int (1 : Int32)), (.ref b1), (.int (0 : Int32))])) _
    refine X4.baloadBooleans hx (j := (1 : Int32)) (v := (.int (0 : Int32))) (by rw [e4]; exact r5.1) (State.isArrayOf_alike hZ.alike r5.2.1) r5.2.2 i5 y5 (g := (mkF m 89 #[.val (.int p0), .val (.int p1), .val (.int (0 : Int32)), .val (.int (1 : Int32)), .val (.ref b1), .val (.ref a_READ), .val (.ref a_UPGRADE), .val (.int (0 : Int32))] [(.int (1 : Int32)), (.ref b1), (.int (0 : Int32))])) rfl rfl (hb hby at_89) _ ?_
    show Steps p.tables e below (T4.setTop (mkF m 90 #[.val (.int p0), .val (.int p1), .val (.int (0 : Int32)), .val (.int (1 : Int32)), .val (.ref b1), .val (.ref a_READ), .val (.ref a_UPGRADE), .val (.int (0 : Int32))] [(.int (0 : Int32)), (.int (0 : Int32))])) _
    refine XS.icmpNo X4.here hx rfl (hb hby at_90) rfl (by decide) ?_
    show Steps p.tables e below (T4.setTop (mkF m 93 #[.val (.int p0), .val (.int p1), .val (.int (0 : Int32)), .val (.int (1 : Int32)), .val (.ref b1), .val (.ref a_READ), .val (.ref a_UPGRADE), .val (.int (0 : Int32))] [])) _
    refine XS.iconst X4.here hx rfl (hb hby at_93) ?_
    show Steps p.tables e below (T4.setTop (mkF m 94 #[.val (.int p0), .val (.int p1), .val (.int (0 : Int32)), .val (.int (1 : Int32)), .val (.ref b1), .val (.ref a_READ), .val (.ref a_UPGRADE), .val (.int (0 : Int32))] [(.int (1 : Int32))])) _
    refine XS.goto X4.here hx rfl (pc0 := 94) (pc' := 98) rfl (hb hby at_94) (by decide) (by decide) ?_
    show Steps p.tables e below (T4.setTop (mkF m 98 #[.val (.int p0), .val (.int p1), .val (.int (0 : Int32)), .val (.int (1 : Int32)), .val (.ref b1), .val (.ref a_READ), .val (.ref a_UPGRADE), .val (.int (0 : Int32))] [(.int (1 : Int32))])) _
    exact retN X4 hx (t := .boolean) Bd.returns (by simp) (hb hby at_98) hr
  · exact ⟨rfl, N4⟩
set_option maxRecDepth 65536 in
set_option maxHeartbeats 40000000 in
theorem rm1_2 (l : Launch) (Z : State) (a0 : Array Value) (hw : ∀ d ∈ tables_1, d.before a0 Z = true) (ws : List Jvm.Cond) (p0 p1 : Int32) (a_READ a_WRITE a_UPGRADE : Addr) (h0 : Heap) (n0 : Nat) (Z0 : n0 ≤ h0.size) (FF : Facts Z h0 a_READ a_WRITE a_UPGRADE) :
    MetFree l (⟨"com/example/gridlok/gridlok/model/LockModeCoversPinLaw", "mode", "(I)Lcom/example/gridlok/gridlok/model/LockMode;"⟩ : MethodName) (head1 (Jvm.Cond.code (⟨"com/example/gridlok/gridlok/model/LockModeCoversPinLaw", "mode", "(I)Lcom/example/gridlok/gridlok/model/LockMode;"⟩ : MethodName) method_2_code 1 (some (.object "com/example/gridlok/gridlok/model/LockMode")) :: ws) ({ frames := 0, cells := 0, slots := 0, locals := 0 } : Room)) (fun a U => a = #[(.int (2 : Int32))] ∧ Z.Warmed39 U.vm ∧ U.heap = h0) (fun _ _ _ _ _ => True) (fun _ U o U' => ∃ v L, o = .returned v ∧ own_Q (.ref a_WRITE) h0 n0 v U'.heap L ∧ FrameEnd U o U' L ({ frames := 0, cells := 0, slots := 0, locals := 0 } : Room).cells ({ frames := 0, cells := 0, slots := 0, locals := 0 } : Room).slots) := by
  refine MetFree.of_bodySF (plainFor_of_name pn_1) hisR ?_
  intro p e s m args below meth c s₁ Bd hml0 hP hK
  obtain ⟨rfl, hZ, hh⟩ := hP
  have hx := Bd.exec
  have hby := Bd.bytes
  have hml : c.maxLocals = 1 := hml0
  have hown : s.vm.findClass "com/example/gridlok/gridlok/model/LockModeCoversPinLaw" = some m.cls := findClass_of_methodNamed Bd.named
  have X0 : Stand p l e ({ frames := 0, cells := 0, slots := 0, locals := 0 } : Room) s m #[(.int (2 : Int32))] below meth c s₁ [] 0 0 := Stand.of_body Bd
  have e0 : s₁.heap = h0 := by rw [← hh, Bd.state]; rfl
  have N0 := Fr.nil n0
  have pre0 : ∀ t, Steps p.tables e below (s₁.setTop (mkF m 0 #[.val (.int (2 : Int32))] [])) t → Steps p.tables e below (s₁.setTop (entryFrame m #[(.int (2 : Int32))] 1)) t := fun t k => castTop (ef_1 m (2 : Int32)) k
  obtain ⟨T1, X1, e1, st1⟩ := getS2 X0 hx hZ hown (host := "") (Or.inl (hw _ (List.mem_of_getElem? (i := 16) rfl))) Via.refl e0 (fx_S_WRITE FF) (g := (mkF m 17 #[.val (.int (2 : Int32))] [])) rfl (hb hby d1_17)
  obtain ⟨fs, hr, hrun, hended, hW, hsame⟩ := X1.leave (v := some (.ref a_WRITE)) (fun h => by rw [Bd.returns] at h; cases h)
  refine ⟨_, _, pre0 _ ?_, hrun, hended, _, _, rfl, ?_, ⟨_, rfl⟩, hW, hsame.mono (by decide) (by decide)⟩
  · show Steps p.tables e below (s₁.setTop (mkF m 0 #[.val (.int (2 : Int32))] [])) _
    refine XS.iloadN X0.here hx rfl (hb hby d1_0) rfl ?_
    show Steps p.tables e below (s₁.setTop (mkF m 1 #[.val (.int (2 : Int32))] [(.int (2 : Int32))])) _
    refine XS.ifYes X0.here hx rfl (pc0 := 1) (pc' := 8) rfl (hb hby d1_1) rfl (by decide) (by decide) (by decide) ?_
    show Steps p.tables e below (s₁.setTop (mkF m 8 #[.val (.int (2 : Int32))] [])) _
    refine XS.iloadN X0.here hx rfl (hb hby d1_8) rfl ?_
    show Steps p.tables e below (s₁.setTop (mkF m 9 #[.val (.int (2 : Int32))] [(.int (2 : Int32))])) _
    refine XS.iconst X0.here hx rfl (hb hby d1_9) ?_
    show Steps p.tables e below (s₁.setTop (mkF m 10 #[.val (.int (2 : Int32))] [(.int (1 : Int32)), (.int (2 : Int32))])) _
    refine XS.icmpYes X0.here hx rfl (pc0 := 10) (pc' := 17) rfl (hb hby d1_10) rfl (by decide) (by decide) (by decide) ?_
    show Steps p.tables e below (s₁.setTop (mkF m 17 #[.val (.int (2 : Int32))] [])) _
    refine st1 _ ?_
    show Steps p.tables e below (T1.setTop (mkF m 20 #[.val (.int (2 : Int32))] [(.ref a_WRITE)])) _
    exact retOut X1 hx Bd.returns rfl (Or.inr (Or.inr (Or.inr (Or.inr ⟨rfl, rfl, rfl⟩)))) (hb hby d1_20) hr
  · show own_Q _ _ _ _ T1.heap _
    exact ⟨rfl, N0, e1⟩
set_option maxRecDepth 65536 in
set_option maxHeartbeats 40000000 in
theorem rm2_2 (l : Launch) (Z : State) (a0 : Array Value) (hw : ∀ d ∈ tables_1, d.before a0 Z = true) (ws : List Jvm.Cond) (p0 p1 : Int32) (a_READ a_WRITE a_UPGRADE : Addr) (h0 : Heap) (n0 : Nat) (Z0 : n0 ≤ h0.size) (FF : Facts Z h0 a_READ a_WRITE a_UPGRADE) :
    MetFree l (⟨"com/example/gridlok/gridlok/model/LockMode", "covers", "(Lcom/example/gridlok/gridlok/model/LockMode;)Z"⟩ : MethodName) (head1 (Jvm.Cond.code (⟨"com/example/gridlok/gridlok/model/LockMode", "covers", "(Lcom/example/gridlok/gridlok/model/LockMode;)Z"⟩ : MethodName) prog_9_method_5_code 2 (some .boolean) :: ws) ({ frames := 0, cells := 0, slots := 0, locals := 0 } : Room)) (fun a U => a = #[(.ref a_READ), (.ref a_WRITE)] ∧ Z.Warmed39 U.vm ∧ U.heap = h0) (fun _ _ _ _ _ => True) (fun _ U o U' => ∃ v L, o = .returned v ∧ own_Q (.int (0 : Int32)) h0 n0 v U'.heap L ∧ FrameEnd U o U' L ({ frames := 0, cells := 0, slots := 0, locals := 0 } : Room).cells ({ frames := 0, cells := 0, slots := 0, locals := 0 } : Room).slots) := by
  refine MetFree.of_bodySF (plainFor_of_name pn_2) hisR ?_
  intro p e s m args below meth c s₁ Bd hml0 hP hK
  obtain ⟨rfl, hZ, hh⟩ := hP
  have hx := Bd.exec
  have hby := Bd.bytes
  have hml : c.maxLocals = 2 := hml0
  have hown : s.vm.findClass "com/example/gridlok/gridlok/model/LockMode" = some m.cls := findClass_of_methodNamed Bd.named
  have X0 : Stand p l e ({ frames := 0, cells := 0, slots := 0, locals := 0 } : Room) s m #[(.ref a_READ), (.ref a_WRITE)] below meth c s₁ [] 0 0 := Stand.of_body Bd
  have e0 : s₁.heap = h0 := by rw [← hh, Bd.state]; rfl
  have N0 := Fr.nil n0
  have pre0 : ∀ t, Steps p.tables e below (s₁.setTop (mkF m 0 #[.val (.ref a_READ), .val (.ref a_WRITE)] [])) t → Steps p.tables e below (s₁.setTop (entryFrame m #[(.ref a_READ), (.ref a_WRITE)] 2)) t := fun t k => castTop (ef_2 m a_READ a_WRITE) k
  obtain ⟨T1, X1, e1, st1⟩ := getS2 X0 hx hZ hown (host := "") (Or.inl (hw _ (List.mem_of_getElem? (i := 14) rfl))) Via.refl e0 (fx_S_WRITE FF) (g := (mkF m 1 #[.val (.ref a_READ), .val (.ref a_WRITE)] [(.ref a_READ)])) rfl (hb hby d2_1)
  obtain ⟨fs, hr, hrun, hended, hW, hsame⟩ := X1.leave (v := some (.int (0 : Int32))) (fun h => by rw [Bd.returns] at h; cases h)
  refine ⟨_, _, pre0 _ ?_, hrun, hended, _, _, rfl, ?_, ⟨_, rfl⟩, hW, hsame.mono (by decide) (by decide)⟩
  · show Steps p.tables e below (s₁.setTop (mkF m 0 #[.val (.ref a_READ), .val (.ref a_WRITE)] [])) _
    refine XS.aloadN X0.here hx rfl (hb hby d2_0) rfl rfl ?_
    show Steps p.tables e below (s₁.setTop (mkF m 1 #[.val (.ref a_READ), .val (.ref a_WRITE)] [(.ref a_READ)])) _
    refine st1 _ ?_
    show Steps p.tables e below (T1.setTop (mkF m 4 #[.val (.ref a_READ), .val (.ref a_WRITE)] [(.ref a_WRITE), (.ref a_READ)])) _
    refine Jvm.RoadKit.acmp (g := (mkF m 4 #[.val (.ref a_READ), .val (.ref a_WRITE)] [(.ref a_WRITE), (.ref a_READ)])) X1 hx rfl rfl rfl (pc0 := 4) (pc' := 7) (same := false) rfl (hb hby d2_4) rfl (decide_eq_false fun q => Fld.ne (fx_F_READ_ordinal FF) (fx_F_WRITE_ordinal FF) (by decide) (Value.ref.inj q)) (by decide) (by decide) ?_
    show Steps p.tables e below (T1.setTop (mkF m 7 #[.val (.ref a_READ), .val (.ref a_WRITE)] [])) _
    refine XS.aloadN X1.here hx rfl (hb hby d2_7) rfl rfl ?_
    show Steps p.tables e below (T1.setTop (mkF m 8 #[.val (.ref a_READ), .val (.ref a_WRITE)] [(.ref a_READ)])) _
    refine XS.aloadN X1.here hx rfl (hb hby d2_8) rfl rfl ?_
    show Steps p.tables e below (T1.setTop (mkF m 9 #[.val (.ref a_READ), .val (.ref a_WRITE)] [(.ref a_WRITE), (.ref a_READ)])) _
    refine Jvm.RoadKit.acmp (g := (mkF m 9 #[.val (.ref a_READ), .val (.ref a_WRITE)] [(.ref a_WRITE), (.ref a_READ)])) X1 hx rfl rfl rfl (pc0 := 9) (pc' := 16) (same := false) rfl (hb hby d2_9) rfl (decide_eq_false fun q => Fld.ne (fx_F_READ_ordinal FF) (fx_F_WRITE_ordinal FF) (by decide) (Value.ref.inj q)) (by decide) (by decide) ?_
    show Steps p.tables e below (T1.setTop (mkF m 16 #[.val (.ref a_READ), .val (.ref a_WRITE)] [])) _
    refine XS.iconst X1.here hx rfl (hb hby d2_16) ?_
    show Steps p.tables e below (T1.setTop (mkF m 17 #[.val (.ref a_READ), .val (.ref a_WRITE)] [(.int (0 : Int32))])) _
    exact retN X1 hx (t := .boolean) Bd.returns (by simp) (hb hby d2_17) hr
  · show own_Q _ _ _ _ T1.heap _
    exact ⟨rfl, N0, e1⟩
set_option maxRecDepth 65536 in
set_option maxHeartbeats 40000000 in
theorem rm0_2 (l : Launch) (Z : State) (a0 : Array Value) (hw : ∀ d ∈ tables_1, d.before a0 Z = true) (ws : List Jvm.Cond) (p0 p1 : Int32) (a_READ a_WRITE a_UPGRADE : Addr) (h0 : Heap) (n0 : Nat) (Z0 : n0 ≤ h0.size) (FF : Facts Z h0 a_READ a_WRITE a_UPGRADE) (hk0 : ((p0 &&& (2147483647 : Int32)) % (3 : Int32)) = (0 : Int32)) (hk1 : ((p1 &&& (2147483647 : Int32)) % (3 : Int32)) = (2 : Int32)) :
    MetFree l x (head1 (Jvm.Cond.code x code maxLocals ret :: ws) room_1) (fun a U => a = #[(.int p0), (.int p1)] ∧ Z.Warmed39 U.vm ∧ U.heap = h0) (fun _ _ _ _ _ => True) (fun _ U o U' => ∃ v L, o = .returned v ∧ (v = some (.int (1 : Int32)) ∧ Fr n0 L) ∧ FrameEnd U o U' L room_1.cells room_1.slots) := by
  refine MetFree.of_bodySF (plainFor_of_name pn_0) hisR ?_
  intro p e s m args below meth c s₁ Bd hml0 hP hK
  obtain ⟨rfl, hZ, hh⟩ := hP
  have hx := Bd.exec
  have hby := Bd.bytes
  have hml : c.maxLocals = 8 := hml0
  have hown : s.vm.findClass "com/example/gridlok/gridlok/model/LockModeCoversPinLaw" = some m.cls := findClass_of_methodNamed Bd.named
  have X0 : Stand p l e room_1 s m #[(.int p0), (.int p1)] below meth c s₁ [] 0 0 := Stand.of_body Bd
  have e0 : s₁.heap = h0 := by rw [← hh, Bd.state]; rfl
  have N0 := Fr.nil n0
  have pre0 : ∀ t, Steps p.tables e below (s₁.setTop (mkF m 0 #[.val (.int p0), .val (.int p1), .unset, .unset, .unset, .unset, .unset, .unset] [])) t → Steps p.tables e below (s₁.setTop (entryFrame m #[(.int p0), (.int p1)] maxLocals)) t := fun t k => castTop (ef_0 m p0 p1) k
  obtain ⟨T1, h1, b1, k1, lc1, X1, e1, s_b1, z1, N1, FF1, V1, st1⟩ := seg_0 (l := l) (Z := Z) hw a_READ a_WRITE a_UPGRADE p0 p1 (0 : Int32) (2 : Int32) X0 hx hZ hby hml hown e0 Z0 N0 FF
  obtain ⟨_, _, ⟨T2, L2, k2, n2⟩, -, X2, ⟨Lc2, hQ2, l2, y2, z2⟩, st2⟩ := Jvm.LawKit.callS X1 hx (y := (⟨"com/example/gridlok/gridlok/model/LockModeCoversPinLaw", "mode", "(I)Lcom/example/gridlok/gridlok/model/LockMode;"⟩ : MethodName)) hown (mvT hZ (hw _ (List.mem_of_getElem? (i := 2) rfl))) (mvT hZ (hw _ (List.mem_of_getElem? (i := 3) rfl))) (mvT hZ (hw _ (List.mem_of_getElem? (i := 4) rfl))) (mvT hZ (hw _ (List.mem_of_getElem? (i := 5) rfl))) (by decide) (backOf (W := 0) (rm1_0 l Z a0 hw [] p0 p1 a_READ a_WRITE a_UPGRADE h1 n0 (Nat.le_trans Z0 z1) FF1) hZ (hw _ (List.mem_of_getElem? (i := 5) rfl)) (hw _ (List.mem_of_getElem? (i := 4) rfl)) (by decide) (by decide)) (g := (mkF m 60 #[.val (.int p0), .val (.int p1), .val (.int (0 : Int32)), .val (.int (2 : Int32)), .val (.ref b1), .unset, .unset, .unset] [(.int (0 : Int32))])) rfl (by rw [hml]; rfl) (argsL := [(.int (0 : Int32))]) (rest := []) (lenOf pd_0 rfl) rfl (by show 2 * 0 + _ ≤ _; exact Nat.le_of_eq rfl) (hb hby at_60) (fun _ _ => ⟨rfl, e1, (by decide : 1 + 0 ≤ _), (by decide : 9 + 0 ≤ _)⟩)
  dsimp only [Pt.U, Pt.locs, Pt.cells, Pt.slots] at X2 l2 y2 z2 st2 hQ2
  subst l2 y2 z2
  obtain ⟨rfl, N2q, e2⟩ := hQ2
  have N2 := Fr.app N1 N2q
  obtain ⟨_, _, ⟨T3, L3, k3, n3⟩, -, X3, ⟨Lc3, hQ3, l3, y3, z3⟩, st3⟩ := Jvm.LawKit.callS X2 hx (y := (⟨"com/example/gridlok/gridlok/model/LockModeCoversPinLaw", "mode", "(I)Lcom/example/gridlok/gridlok/model/LockMode;"⟩ : MethodName)) hown (mvT hZ (hw _ (List.mem_of_getElem? (i := 2) rfl))) (mvT hZ (hw _ (List.mem_of_getElem? (i := 3) rfl))) (mvT hZ (hw _ (List.mem_of_getElem? (i := 4) rfl))) (mvT hZ (hw _ (List.mem_of_getElem? (i := 5) rfl))) (by decide) (backOf (W := 0) (rm1_2 l Z a0 hw [] p0 p1 a_READ a_WRITE a_UPGRADE h1 n0 (Nat.le_trans Z0 z1) FF1) hZ (hw _ (List.mem_of_getElem? (i := 5) rfl)) (hw _ (List.mem_of_getElem? (i := 4) rfl)) (by decide) (by decide)) (g := (mkF m 66 #[.val (.int p0), .val (.int p1), .val (.int (0 : Int32)), .val (.int (2 : Int32)), .val (.ref b1), .val (.ref a_READ), .unset, .unset] [(.int (2 : Int32))])) rfl (by rw [hml]; rfl) (argsL := [(.int (2 : Int32))]) (rest := []) (lenOf pd_0 rfl) rfl (by show 2 * 0 + _ ≤ _; exact Nat.le_of_eq rfl) (hb hby at_66) (fun _ _ => ⟨rfl, e2, (by decide : 1 + 0 ≤ _), (by decide : 9 + 0 ≤ _)⟩)
  dsimp only [Pt.U, Pt.locs, Pt.cells, Pt.slots] at X3 l3 y3 z3 st3 hQ3
  subst l3 y3 z3
  obtain ⟨rfl, N3q, e3⟩ := hQ3
  have N3 := Fr.app N2 N3q
  obtain ⟨cq4, kq4, q4a, q4b, q4c⟩ := isOf hZ e3 (fx_E_READ FF1)
  obtain ⟨_, _, ⟨T4, L4, k4, n4⟩, -, X4, ⟨Lc4, hQ4, l4, y4, z4⟩, st4⟩ := X3.virtualBack hx (y := (⟨"com/example/gridlok/gridlok/model/LockMode", "covers", "(Lcom/example/gridlok/gridlok/model/LockMode;)Z"⟩ : MethodName)) (z := (⟨"com/example/gridlok/gridlok/model/LockMode", "covers", "(Lcom/example/gridlok/gridlok/model/LockMode;)Z"⟩ : MethodName)) hown (mvT hZ (hw _ (List.mem_of_getElem? (i := 9) rfl))) (mvT hZ (hw _ (List.mem_of_getElem? (i := 10) rfl))) (notFace_of_selects (args := #[]) (mvT hZ (hw _ (List.mem_of_getElem? (i := 12) rfl)))) (mvT hZ (hw _ (List.mem_of_getElem? (i := 12) rfl))) (mvT hZ (hw _ (List.mem_of_getElem? (i := 11) rfl))) (by decide) (backOf (W := 0) (rm2_2 l Z a0 hw [] p0 p1 a_READ a_WRITE a_UPGRADE h1 n0 (Nat.le_trans Z0 z1) FF1) hZ (hw _ (List.mem_of_getElem? (i := 13) rfl)) (hw _ (List.mem_of_getElem? (i := 7) rfl)) (by decide) (by decide)) q4a q4c (g := (mkF m 75 #[.val (.int p0), .val (.int p1), .val (.int (0 : Int32)), .val (.int (2 : Int32)), .val (.ref b1), .val (.ref a_READ), .val (.ref a_WRITE), .unset] [(.ref a_WRITE), (.ref a_READ)])) rfl (by rw [hml]; rfl) (Steps.refl _) (argsL := [(.ref a_WRITE)]) (rest := []) (lenOf pd_1 rfl) rfl (by show 2 * 0 + _ ≤ _; exact Nat.le_of_eq rfl) (hb hby at_75) (fun _ _ => ⟨rfl, e3, (by decide : 1 + 0 ≤ _), (by decide : 9 + 0 ≤ _)⟩)
  dsimp only [Pt.U, Pt.locs, Pt.cells, Pt.slots] at X4 l4 y4 z4 st4 hQ4
  subst l4 y4 z4
  obtain ⟨rfl, N4q, e4⟩ := hQ4
  have N4 := Fr.app N3 N4q
  obtain ⟨c5, r5, -, S5, -, H5, -⟩ := V1
  have i5 : ¬ ((2 : Int32) < 0 ∨ c5.slots.size ≤ ((2 : Int32)).toNatClampNeg) := inb_of S5 ⟨by decide, by decide⟩
  have y5 : c5.slots[((2 : Int32)).toNatClampNeg]? = some (.int (0 : Int32)) := H5 2 (by rw [S5]; decide)
  obtain ⟨fs, hr, hrun, hended, hW, hsame⟩ := X4.leave (v := some (.int (1 : Int32))) (fun h => by rw [Bd.returns] at h; cases h)
  refine ⟨_, _, pre0 _ ?_, hrun, hended, _, _, rfl, ?_, ⟨_, rfl⟩, hW, hsame.mono (by decide) (by decide)⟩
  · show Steps p.tables e below (s₁.setTop (mkF m 0 #[.val (.int p0), .val (.int p1), .unset, .unset, .unset, .unset, .unset, .unset] [])) _
    refine XS.iloadN X0.here hx rfl (hb hby at_0) rfl ?_
    show Steps p.tables e below (s₁.setTop (mkF m 1 #[.val (.int p0), .val (.int p1), .unset, .unset, .unset, .unset, .unset, .unset] [(.int p0)])) _
    refine X0.ldcInt hx hown (mvT hZ (hw _ (List.mem_of_getElem? (i := 0) rfl))) (g := (mkF m 1 #[.val (.int p0), .val (.int p1), .unset, .unset, .unset, .unset, .unset, .unset] [(.int p0)])) rfl (hb hby at_1) _ ?_
    show Steps p.tables e below (s₁.setTop (mkF m 3 #[.val (.int p0), .val (.int p1), .unset, .unset, .unset, .unset, .unset, .unset] [(.int (2147483647 : Int32)), (.int p0)])) _
    refine XS.iand X0.here hx rfl (hb hby at_3) rfl ?_
    show Steps p.tables e below (s₁.setTop (mkF m 4 #[.val (.int p0), .val (.int p1), .unset, .unset, .unset, .unset, .unset, .unset] [(.int (p0 &&& (2147483647 : Int32)))])) _
    refine XS.iconst X0.here hx rfl (hb hby at_4) ?_
    show Steps p.tables e below (s₁.setTop (mkF m 5 #[.val (.int p0), .val (.int p1), .unset, .unset, .unset, .unset, .unset, .unset] [(.int (3 : Int32)), (.int (p0 &&& (2147483647 : Int32)))])) _
    refine iremM X0 hx rfl (hb hby at_5) rfl (by decide) ?_
    show Steps p.tables e below (s₁.setTop (mkF m 6 #[.val (.int p0), .val (.int p1), .unset, .unset, .unset, .unset, .unset, .unset] [(.int ((p0 &&& (2147483647 : Int32)) % (3 : Int32)))])) _
    rw [hk0]
    show Steps p.tables e below (s₁.setTop (mkF m 6 #[.val (.int p0), .val (.int p1), .unset, .unset, .unset, .unset, .unset, .unset] [(.int (0 : Int32))])) _
    refine XS.istoreN X0.here hx rfl (hb hby at_6) rfl (l' := #[.val (.int p0), .val (.int p1), .val (.int (0 : Int32)), .unset, .unset, .unset, .unset, .unset]) rfl ?_
    show Steps p.tables e below (s₁.setTop (mkF m 7 #[.val (.int p0), .val (.int p1), .val (.int (0 : Int32)), .unset, .unset, .unset, .unset, .unset] [])) _
    refine XS.iloadN X0.here hx rfl (hb hby at_7) rfl ?_
    show Steps p.tables e below (s₁.setTop (mkF m 8 #[.val (.int p0), .val (.int p1), .val (.int (0 : Int32)), .unset, .unset, .unset, .unset, .unset] [(.int p1)])) _
    refine X0.ldcInt hx hown (mvT hZ (hw _ (List.mem_of_getElem? (i := 0) rfl))) (g := (mkF m 8 #[.val (.int p0), .val (.int p1), .val (.int (0 : Int32)), .unset, .unset, .unset, .unset, .unset] [(.int p1)])) rfl (hb hby at_8) _ ?_
    show Steps p.tables e below (s₁.setTop (mkF m 10 #[.val (.int p0), .val (.int p1), .val (.int (0 : Int32)), .unset, .unset, .unset, .unset, .unset] [(.int (2147483647 : Int32)), (.int p1)])) _
    refine XS.iand X0.here hx rfl (hb hby at_10) rfl ?_
    show Steps p.tables e below (s₁.setTop (mkF m 11 #[.val (.int p0), .val (.int p1), .val (.int (0 : Int32)), .unset, .unset, .unset, .unset, .unset] [(.int (p1 &&& (2147483647 : Int32)))])) _
    refine XS.iconst X0.here hx rfl (hb hby at_11) ?_
    show Steps p.tables e below (s₁.setTop (mkF m 12 #[.val (.int p0), .val (.int p1), .val (.int (0 : Int32)), .unset, .unset, .unset, .unset, .unset] [(.int (3 : Int32)), (.int (p1 &&& (2147483647 : Int32)))])) _
    refine iremM X0 hx rfl (hb hby at_12) rfl (by decide) ?_
    show Steps p.tables e below (s₁.setTop (mkF m 13 #[.val (.int p0), .val (.int p1), .val (.int (0 : Int32)), .unset, .unset, .unset, .unset, .unset] [(.int ((p1 &&& (2147483647 : Int32)) % (3 : Int32)))])) _
    rw [hk1]
    show Steps p.tables e below (s₁.setTop (mkF m 13 #[.val (.int p0), .val (.int p1), .val (.int (0 : Int32)), .unset, .unset, .unset, .unset, .unset] [(.int (2 : Int32))])) _
    refine XS.istoreN X0.here hx rfl (hb hby at_13) rfl (l' := #[.val (.int p0), .val (.int p1), .val (.int (0 : Int32)), .val (.int (2 : Int32)), .unset, .unset, .unset, .unset]) rfl ?_
    show Steps p.tables e below (s₁.setTop (mkF m 14 #[.val (.int p0), .val (.int p1), .val (.int (0 : Int32)), .val (.int (2 : Int32)), .unset, .unset, .unset, .unset] [])) _
    refine st1 _ ?_
    show Steps p.tables e below (T1.setTop (mkF m 59 #[.val (.int p0), .val (.int p1), .val (.int (0 : Int32)), .val (.int (2 : Int32)), .val (.ref b1), .unset, .unset, .unset] [])) _
    refine XS.iloadN X1.here hx rfl (hb hby at_59) rfl ?_
    show Steps p.tables e below (T1.setTop (mkF m 60 #[.val (.int p0), .val (.int p1), .val (.int (0 : Int32)), .val (.int (2 : Int32)), .val (.ref b1), .unset, .unset, .unset] [(.int (0 : Int32))])) _
    refine st2 _ ?_
    show Steps p.tables e below (T2.setTop (mkF m 63 #[.val (.int p0), .val (.int p1), .val (.int (0 : Int32)), .val (.int (2 : Int32)), .val (.ref b1), .unset, .unset, .unset] [(.ref a_READ)])) _
    refine XS.astore X2.here hx rfl (hb hby at_63) rfl rfl (l' := #[.val (.int p0), .val (.int p1), .val (.int (0 : Int32)), .val (.int (2 : Int32)), .val (.ref b1), .val (.ref a_READ), .unset, .unset]) rfl ?_
    show Steps p.tables e below (T2.setTop (mkF m 65 #[.val (.int p0), .val (.int p1), .val (.int (0 : Int32)), .val (.int (2 : Int32)), .val (.ref b1), .val (.ref a_READ), .unset, .unset] [])) _
    refine XS.iloadN X2.here hx rfl (hb hby at_65) rfl ?_
    show Steps p.tables e below (T2.setTop (mkF m 66 #[.val (.int p0), .val (.int p1), .val (.int (0 : Int32)), .val (.int (2 : Int32)), .val (.ref b1), .val (.ref a_READ), .unset, .unset] [(.int (2 : Int32))])) _
    refine st3 _ ?_
    show Steps p.tables e below (T3.setTop (mkF m 69 #[.val (.int p0), .val (.int p1), .val (.int (0 : Int32)), .val (.int (2 : Int32)), .val (.ref b1), .val (.ref a_READ), .unset, .unset] [(.ref a_WRITE)])) _
    refine XS.astore X3.here hx rfl (hb hby at_69) rfl rfl (l' := #[.val (.int p0), .val (.int p1), .val (.int (0 : Int32)), .val (.int (2 : Int32)), .val (.ref b1), .val (.ref a_READ), .val (.ref a_WRITE), .unset]) rfl ?_
    show Steps p.tables e below (T3.setTop (mkF m 71 #[.val (.int p0), .val (.int p1), .val (.int (0 : Int32)), .val (.int (2 : Int32)), .val (.ref b1), .val (.ref a_READ), .val (.ref a_WRITE), .unset] [])) _
    refine XS.aload X3.here hx rfl (hb hby at_71) rfl rfl ?_
    show Steps p.tables e below (T3.setTop (mkF m 73 #[.val (.int p0), .val (.int p1), .val (.int (0 : Int32)), .val (.int (2 : Int32)), .val (.ref b1), .val (.ref a_READ), .val (.ref a_WRITE), .unset] [(.ref a_READ)])) _
    refine XS.aload X3.here hx rfl (hb hby at_73) rfl rfl ?_
    show Steps p.tables e below (T3.setTop (mkF m 75 #[.val (.int p0), .val (.int p1), .val (.int (0 : Int32)), .val (.int (2 : Int32)), .val (.ref b1), .val (.ref a_READ), .val (.ref a_WRITE), .unset] [(.ref a_WRITE), (.ref a_READ)])) _
    refine st4.trans ?_
    show Steps p.tables e below (T4.setTop (mkF m 78 #[.val (.int p0), .val (.int p1), .val (.int (0 : Int32)), .val (.int (2 : Int32)), .val (.ref b1), .val (.ref a_READ), .val (.ref a_WRITE), .unset] [(.int (0 : Int32))])) _
    refine XS.istore X4.here hx rfl (hb hby at_78) rfl (l' := #[.val (.int p0), .val (.int p1), .val (.int (0 : Int32)), .val (.int (2 : Int32)), .val (.ref b1), .val (.ref a_READ), .val (.ref a_WRITE), .val (.int (0 : Int32))]) rfl ?_
    show Steps p.tables e below (T4.setTop (mkF m 80 #[.val (.int p0), .val (.int p1), .val (.int (0 : Int32)), .val (.int (2 : Int32)), .val (.ref b1), .val (.ref a_READ), .val (.ref a_WRITE), .val (.int (0 : Int32))] [])) _
    refine XS.iload X4.here hx rfl (hb hby at_80) rfl ?_
    show Steps p.tables e below (T4.setTop (mkF m 82 #[.val (.int p0), .val (.int p1), .val (.int (0 : Int32)), .val (.int (2 : Int32)), .val (.ref b1), .val (.ref a_READ), .val (.ref a_WRITE), .val (.int (0 : Int32))] [(.int (0 : Int32))])) _
    refine XS.aload X4.here hx rfl (hb hby at_82) rfl rfl ?_
    show Steps p.tables e below (T4.setTop (mkF m 84 #[.val (.int p0), .val (.int p1), .val (.int (0 : Int32)), .val (.int (2 : Int32)), .val (.ref b1), .val (.ref a_READ), .val (.ref a_WRITE), .val (.int (0 : Int32))] [(.ref b1), (.int (0 : Int32))])) _
    refine XS.iloadN X4.here hx rfl (hb hby at_84) rfl ?_
    show Steps p.tables e below (T4.setTop (mkF m 85 #[.val (.int p0), .val (.int p1), .val (.int (0 : Int32)), .val (.int (2 : Int32)), .val (.ref b1), .val (.ref a_READ), .val (.ref a_WRITE), .val (.int (0 : Int32))] [(.int (0 : Int32)), (.ref b1), (.int (0 : Int32))])) _
    refine XS.iconst X4.here hx rfl (hb hby at_85) ?_
    show Steps p.tables e below (T4.setTop (mkF m 86 #[.val (.int p0), .val (.int p1), .val (.int (0 : Int32)), .val (.int (2 : Int32)), .val (.ref b1), .val (.ref a_READ), .val (.ref a_WRITE), .val (.int (0 : Int32))] [(.int (3 : Int32)), (.int (0 : Int32)), (.ref b1), (.int (0 : Int32))])) _
    refine XS.imul X4.here hx rfl (hb hby at_86) rfl ?_
    show Steps p.tables e below (T4.setTop (mkF m 87 #[.val (.int p0), .val (.int p1), .val (.int (0 : Int32)), .val (.int (2 : Int32)), .val (.ref b1), .val (.ref a_READ), .val (.ref a_WRITE), .val (.int (0 : Int32))] [(.int ((0 : Int32) * (3 : Int32))), (.ref b1), (.int (0 : Int32))])) _
    rw [(by decide : ((0 : Int32) * (3 : Int32)) = (0 : Int32))]
    show Steps p.tables e below (T4.setTop (mkF m 87 #[.val (.int p0), .val (.int p1), .val (.int (0 : Int32)), .val (.int (2 : Int32)), .val (.ref b1), .val (.ref a_READ), .val (.ref a_WRITE), .val (.int (0 : Int32))] [(.int (0 : Int32)), (.ref b1), (.int (0 : Int32))])) _
    refine XS.iloadN X4.here hx rfl (hb hby at_87) rfl ?_
    show Steps p.tables e below (T4.setTop (mkF m 88 #[.val (.int p0), .val (.int p1), .val (.int (0 : Int32)), .val (.int (2 : Int32)), .val (.ref b1), .val (.ref a_READ), .val (.ref a_WRITE), .val (.int (0 : Int32))] [(.int (2 : Int32)), (.int (0 : Int32)), (.ref b1), (.int (0 : Int32))])) _
    refine XS.iadd X4.here hx rfl (hb hby at_88) rfl ?_
    show Steps p.tables e below (T4.setTop (mkF m 89 #[.val (.int p0), .val (.int p1), .val (.int (0 : Int32)), .val (.int (2 : Int32)), .val (.ref b1), .val (.ref a_READ), .val (.ref a_WRITE), .val (.int (0 : Int32))] [(.int ((0 : Int32) + (2 : Int32))), (.ref b1), (.int (0 : Int32))])) _
    rw [(by decide : ((0 : Int32) + (2 : Int32)) = (2 : Int32))]
    show Steps p.tables e below (T4.setTop (mkF m 89 #[.val (.int p0), .val (.int p1), .val (.int (0 : Int32)), .val (.int (2 : Int32)), .val (.ref b1), .val (.ref a_READ), .val (.ref a_WRITE), .val (.int (0 : Int32))] [(.int (2 : Int32)), (.ref b1), (.int (0 : Int32))])) _
    refine X4.baloadBooleans hx (j := (2 : Int32)) (v := (.int (0 : Int32))) (by rw [e4]; exact r5.1) (State.isArrayOf_alike hZ.alike r5.2.1) r5.2.2 i5 y5 (g := (mkF m 89 #[.val (.int p0), .val (.int p1), .val (.int (0 : Int32)), .val (.int (2 : Int32)), .val (.ref b1), .val (.ref a_READ), .val (.ref a_WRITE), .val (.int (0 : Int32))] [(.int (2 : Int32)), (.ref b1), (.int (0 : Int32))])) rfl rfl (hb hby at_89) _ ?_
    show Steps p.tables e below (T4.setTop (mkF m 90 #[.val (.int p0), .val (.int p1), .val (.int (0 : Int32)), .val (.int (2 : Int32)), .val (.ref b1), .val (.ref a_READ), .val (.ref a_WRITE), .val (.int (0 : Int32))] [(.int (0 : Int32)), (.int (0 : Int32))])) _
    refine XS.icmpNo X4.here hx rfl (hb hby at_90) rfl (by decide) ?_
    show Steps p.tables e below (T4.setTop (mkF m 93 #[.val (.int p0), .val (.int p1), .val (.int (0 : Int32)), .val (.int (2 : Int32)), .val (.ref b1), .val (.ref a_READ), .val (.ref a_WRITE), .val (.int (0 : Int32))] [])) _
    refine XS.iconst X4.here hx rfl (hb hby at_93) ?_
    show Steps p.tables e below (T4.setTop (mkF m 94 #[.val (.int p0), .val (.int p1), .val (.int (0 : Int32)), .val (.int (2 : Int32)), .val (.ref b1), .val (.ref a_READ), .val (.ref a_WRITE), .val (.int (0 : Int32))] [(.int (1 : Int32))])) _
    refine XS.goto X4.here hx rfl (pc0 := 94) (pc' := 98) rfl (hb hby at_94) (by decide) (by decide) ?_
    show Steps p.tables e below (T4.setTop (mkF m 98 #[.val (.int p0), .val (.int p1), .val (.int (0 : Int32)), .val (.int (2 : Int32)), .val (.ref b1), .val (.ref a_READ), .val (.ref a_WRITE), .val (.int (0 : Int32))] [(.int (1 : Int32))])) _
    exact retN X4 hx (t := .boolean) Bd.returns (by simp) (hb hby at_98) hr
  · exact ⟨rfl, N4⟩
set_option maxRecDepth 65536 in
set_option maxHeartbeats 40000000 in
theorem rm2_3 (l : Launch) (Z : State) (a0 : Array Value) (hw : ∀ d ∈ tables_1, d.before a0 Z = true) (ws : List Jvm.Cond) (p0 p1 : Int32) (a_READ a_WRITE a_UPGRADE : Addr) (h0 : Heap) (n0 : Nat) (Z0 : n0 ≤ h0.size) (FF : Facts Z h0 a_READ a_WRITE a_UPGRADE) :
    MetFree l (⟨"com/example/gridlok/gridlok/model/LockMode", "covers", "(Lcom/example/gridlok/gridlok/model/LockMode;)Z"⟩ : MethodName) (head1 (Jvm.Cond.code (⟨"com/example/gridlok/gridlok/model/LockMode", "covers", "(Lcom/example/gridlok/gridlok/model/LockMode;)Z"⟩ : MethodName) prog_9_method_5_code 2 (some .boolean) :: ws) ({ frames := 0, cells := 0, slots := 0, locals := 0 } : Room)) (fun a U => a = #[(.ref a_UPGRADE), (.ref a_READ)] ∧ Z.Warmed39 U.vm ∧ U.heap = h0) (fun _ _ _ _ _ => True) (fun _ U o U' => ∃ v L, o = .returned v ∧ own_Q (.int (0 : Int32)) h0 n0 v U'.heap L ∧ FrameEnd U o U' L ({ frames := 0, cells := 0, slots := 0, locals := 0 } : Room).cells ({ frames := 0, cells := 0, slots := 0, locals := 0 } : Room).slots) := by
  refine MetFree.of_bodySF (plainFor_of_name pn_2) hisR ?_
  intro p e s m args below meth c s₁ Bd hml0 hP hK
  obtain ⟨rfl, hZ, hh⟩ := hP
  have hx := Bd.exec
  have hby := Bd.bytes
  have hml : c.maxLocals = 2 := hml0
  have hown : s.vm.findClass "com/example/gridlok/gridlok/model/LockMode" = some m.cls := findClass_of_methodNamed Bd.named
  have X0 : Stand p l e ({ frames := 0, cells := 0, slots := 0, locals := 0 } : Room) s m #[(.ref a_UPGRADE), (.ref a_READ)] below meth c s₁ [] 0 0 := Stand.of_body Bd
  have e0 : s₁.heap = h0 := by rw [← hh, Bd.state]; rfl
  have N0 := Fr.nil n0
  have pre0 : ∀ t, Steps p.tables e below (s₁.setTop (mkF m 0 #[.val (.ref a_UPGRADE), .val (.ref a_READ)] [])) t → Steps p.tables e below (s₁.setTop (entryFrame m #[(.ref a_UPGRADE), (.ref a_READ)] 2)) t := fun t k => castTop (ef_2 m a_UPGRADE a_READ) k
  obtain ⟨T1, X1, e1, st1⟩ := getS2 X0 hx hZ hown (host := "") (Or.inl (hw _ (List.mem_of_getElem? (i := 14) rfl))) Via.refl e0 (fx_S_WRITE FF) (g := (mkF m 1 #[.val (.ref a_UPGRADE), .val (.ref a_READ)] [(.ref a_UPGRADE)])) rfl (hb hby d2_1)
  obtain ⟨fs, hr, hrun, hended, hW, hsame⟩ := X1.leave (v := some (.int (0 : Int32))) (fun h => by rw [Bd.returns] at h; cases h)
  refine ⟨_, _, pre0 _ ?_, hrun, hended, _, _, rfl, ?_, ⟨_, rfl⟩, hW, hsame.mono (by decide) (by decide)⟩
  · show Steps p.tables e below (s₁.setTop (mkF m 0 #[.val (.ref a_UPGRADE), .val (.ref a_READ)] [])) _
    refine XS.aloadN X0.here hx rfl (hb hby d2_0) rfl rfl ?_
    show Steps p.tables e below (s₁.setTop (mkF m 1 #[.val (.ref a_UPGRADE), .val (.ref a_READ)] [(.ref a_UPGRADE)])) _
    refine st1 _ ?_
    show Steps p.tables e below (T1.setTop (mkF m 4 #[.val (.ref a_UPGRADE), .val (.ref a_READ)] [(.ref a_WRITE), (.ref a_UPGRADE)])) _
    refine Jvm.RoadKit.acmp (g := (mkF m 4 #[.val (.ref a_UPGRADE), .val (.ref a_READ)] [(.ref a_WRITE), (.ref a_UPGRADE)])) X1 hx rfl rfl rfl (pc0 := 4) (pc' := 7) (same := false) rfl (hb hby d2_4) rfl (decide_eq_false fun q => Fld.ne (fx_F_UPGRADE_ordinal FF) (fx_F_WRITE_ordinal FF) (by decide) (Value.ref.inj q)) (by decide) (by decide) ?_
    show Steps p.tables e below (T1.setTop (mkF m 7 #[.val (.ref a_UPGRADE), .val (.ref a_READ)] [])) _
    refine XS.aloadN X1.here hx rfl (hb hby d2_7) rfl rfl ?_
    show Steps p.tables e below (T1.setTop (mkF m 8 #[.val (.ref a_UPGRADE), .val (.ref a_READ)] [(.ref a_UPGRADE)])) _
    refine XS.aloadN X1.here hx rfl (hb hby d2_8) rfl rfl ?_
    show Steps p.tables e below (T1.setTop (mkF m 9 #[.val (.ref a_UPGRADE), .val (.ref a_READ)] [(.ref a_READ), (.ref a_UPGRADE)])) _
    refine Jvm.RoadKit.acmp (g := (mkF m 9 #[.val (.ref a_UPGRADE), .val (.ref a_READ)] [(.ref a_READ), (.ref a_UPGRADE)])) X1 hx rfl rfl rfl (pc0 := 9) (pc' := 16) (same := false) rfl (hb hby d2_9) rfl (decide_eq_false fun q => Fld.ne (fx_F_UPGRADE_ordinal FF) (fx_F_READ_ordinal FF) (by decide) (Value.ref.inj q)) (by decide) (by decide) ?_
    show Steps p.tables e below (T1.setTop (mkF m 16 #[.val (.ref a_UPGRADE), .val (.ref a_READ)] [])) _
    refine XS.iconst X1.here hx rfl (hb hby d2_16) ?_
    show Steps p.tables e below (T1.setTop (mkF m 17 #[.val (.ref a_UPGRADE), .val (.ref a_READ)] [(.int (0 : Int32))])) _
    exact retN X1 hx (t := .boolean) Bd.returns (by simp) (hb hby d2_17) hr
  · show own_Q _ _ _ _ T1.heap _
    exact ⟨rfl, N0, e1⟩
set_option maxRecDepth 65536 in
set_option maxHeartbeats 40000000 in
theorem rm0_3 (l : Launch) (Z : State) (a0 : Array Value) (hw : ∀ d ∈ tables_1, d.before a0 Z = true) (ws : List Jvm.Cond) (p0 p1 : Int32) (a_READ a_WRITE a_UPGRADE : Addr) (h0 : Heap) (n0 : Nat) (Z0 : n0 ≤ h0.size) (FF : Facts Z h0 a_READ a_WRITE a_UPGRADE) (hk0 : ((p0 &&& (2147483647 : Int32)) % (3 : Int32)) = (1 : Int32)) (hk1 : ((p1 &&& (2147483647 : Int32)) % (3 : Int32)) = (0 : Int32)) :
    MetFree l x (head1 (Jvm.Cond.code x code maxLocals ret :: ws) room_1) (fun a U => a = #[(.int p0), (.int p1)] ∧ Z.Warmed39 U.vm ∧ U.heap = h0) (fun _ _ _ _ _ => True) (fun _ U o U' => ∃ v L, o = .returned v ∧ (v = some (.int (1 : Int32)) ∧ Fr n0 L) ∧ FrameEnd U o U' L room_1.cells room_1.slots) := by
  refine MetFree.of_bodySF (plainFor_of_name pn_0) hisR ?_
  intro p e s m args below meth c s₁ Bd hml0 hP hK
  obtain ⟨rfl, hZ, hh⟩ := hP
  have hx := Bd.exec
  have hby := Bd.bytes
  have hml : c.maxLocals = 8 := hml0
  have hown : s.vm.findClass "com/example/gridlok/gridlok/model/LockModeCoversPinLaw" = some m.cls := findClass_of_methodNamed Bd.named
  have X0 : Stand p l e room_1 s m #[(.int p0), (.int p1)] below meth c s₁ [] 0 0 := Stand.of_body Bd
  have e0 : s₁.heap = h0 := by rw [← hh, Bd.state]; rfl
  have N0 := Fr.nil n0
  have pre0 : ∀ t, Steps p.tables e below (s₁.setTop (mkF m 0 #[.val (.int p0), .val (.int p1), .unset, .unset, .unset, .unset, .unset, .unset] [])) t → Steps p.tables e below (s₁.setTop (entryFrame m #[(.int p0), (.int p1)] maxLocals)) t := fun t k => castTop (ef_0 m p0 p1) k
  obtain ⟨T1, h1, b1, k1, lc1, X1, e1, s_b1, z1, N1, FF1, V1, st1⟩ := seg_0 (l := l) (Z := Z) hw a_READ a_WRITE a_UPGRADE p0 p1 (1 : Int32) (0 : Int32) X0 hx hZ hby hml hown e0 Z0 N0 FF
  obtain ⟨_, _, ⟨T2, L2, k2, n2⟩, -, X2, ⟨Lc2, hQ2, l2, y2, z2⟩, st2⟩ := Jvm.LawKit.callS X1 hx (y := (⟨"com/example/gridlok/gridlok/model/LockModeCoversPinLaw", "mode", "(I)Lcom/example/gridlok/gridlok/model/LockMode;"⟩ : MethodName)) hown (mvT hZ (hw _ (List.mem_of_getElem? (i := 2) rfl))) (mvT hZ (hw _ (List.mem_of_getElem? (i := 3) rfl))) (mvT hZ (hw _ (List.mem_of_getElem? (i := 4) rfl))) (mvT hZ (hw _ (List.mem_of_getElem? (i := 5) rfl))) (by decide) (backOf (W := 0) (rm1_1 l Z a0 hw [] p0 p1 a_READ a_WRITE a_UPGRADE h1 n0 (Nat.le_trans Z0 z1) FF1) hZ (hw _ (List.mem_of_getElem? (i := 5) rfl)) (hw _ (List.mem_of_getElem? (i := 4) rfl)) (by decide) (by decide)) (g := (mkF m 60 #[.val (.int p0), .val (.int p1), .val (.int (1 : Int32)), .val (.int (0 : Int32)), .val (.ref b1), .unset, .unset, .unset] [(.int (1 : Int32))])) rfl (by rw [hml]; rfl) (argsL := [(.int (1 : Int32))]) (rest := []) (lenOf pd_0 rfl) rfl (by show 2 * 0 + _ ≤ _; exact Nat.le_of_eq rfl) (hb hby at_60) (fun _ _ => ⟨rfl, e1, (by decide : 1 + 0 ≤ _), (by decide : 9 + 0 ≤ _)⟩)
  dsimp only [Pt.U, Pt.locs, Pt.cells, Pt.slots] at X2 l2 y2 z2 st2 hQ2
  subst l2 y2 z2
  obtain ⟨rfl, N2q, e2⟩ := hQ2
  have N2 := Fr.app N1 N2q
  obtain ⟨_, _, ⟨T3, L3, k3, n3⟩, -, X3, ⟨Lc3, hQ3, l3, y3, z3⟩, st3⟩ := Jvm.LawKit.callS X2 hx (y := (⟨"com/example/gridlok/gridlok/model/LockModeCoversPinLaw", "mode", "(I)Lcom/example/gridlok/gridlok/model/LockMode;"⟩ : MethodName)) hown (mvT hZ (hw _ (List.mem_of_getElem? (i := 2) rfl))) (mvT hZ (hw _ (List.mem_of_getElem? (i := 3) rfl))) (mvT hZ (hw _ (List.mem_of_getElem? (i := 4) rfl))) (mvT hZ (hw _ (List.mem_of_getElem? (i := 5) rfl))) (by decide) (backOf (W := 0) (rm1_0 l Z a0 hw [] p0 p1 a_READ a_WRITE a_UPGRADE h1 n0 (Nat.le_trans Z0 z1) FF1) hZ (hw _ (List.mem_of_getElem? (i := 5) rfl)) (hw _ (List.mem_of_getElem? (i := 4) rfl)) (by decide) (by decide)) (g := (mkF m 66 #[.val (.int p0), .val (.int p1), .val (.int (1 : Int32)), .val (.int (0 : Int32)), .val (.ref b1), .val (.ref a_UPGRADE), .unset, .unset] [(.int (0 : Int32))])) rfl (by rw [hml]; rfl) (argsL := [(.int (0 : Int32))]) (rest := []) (lenOf pd_0 rfl) rfl (by show 2 * 0 + _ ≤ _; exact Nat.le_of_eq rfl) (hb hby at_66) (fun _ _ => ⟨rfl, e2, (by decide : 1 + 0 ≤ _), (by decide : 9 + 0 ≤ _)⟩)
  dsimp only [Pt.U, Pt.locs, Pt.cells, Pt.slots] at X3 l3 y3 z3 st3 hQ3
  subst l3 y3 z3
  obtain ⟨rfl, N3q, e3⟩ := hQ3
  have N3 := Fr.app N2 N3q
  obtain ⟨cq4, kq4, q4a, q4b, q4c⟩ := isOf hZ e3 (fx_E_UPGRADE FF1)
  obtain ⟨_, _, ⟨T4, L4, k4, n4⟩, -, X4, ⟨Lc4, hQ4, l4, y4, z4⟩, st4⟩ := X3.virtualBack hx (y := (⟨"com/example/gridlok/gridlok/model/LockMode", "covers", "(Lcom/example/gridlok/gridlok/model/LockMode;)Z"⟩ : MethodName)) (z := (⟨"com/example/gridlok/gridlok/model/LockMode", "covers", "(Lcom/example/gridlok/gridlok/model/LockMode;)Z"⟩ : MethodName)) hown (mvT hZ (hw _ (List.mem_of_getElem? (i := 9) rfl))) (mvT hZ (hw _ (List.mem_of_getElem? (i := 10) rfl))) (notFace_of_selects (args := #[]) (mvT hZ (hw _ (List.mem_of_getElem? (i := 12) rfl)))) (mvT hZ (hw _ (List.mem_of_getElem? (i := 12) rfl))) (mvT hZ (hw _ (List.mem_of_getElem? (i := 11) rfl))) (by decide) (backOf (W := 0) (rm2_3 l Z a0 hw [] p0 p1 a_READ a_WRITE a_UPGRADE h1 n0 (Nat.le_trans Z0 z1) FF1) hZ (hw _ (List.mem_of_getElem? (i := 13) rfl)) (hw _ (List.mem_of_getElem? (i := 7) rfl)) (by decide) (by decide)) q4a q4c (g := (mkF m 75 #[.val (.int p0), .val (.int p1), .val (.int (1 : Int32)), .val (.int (0 : Int32)), .val (.ref b1), .val (.ref a_UPGRADE), .val (.ref a_READ), .unset] [(.ref a_READ), (.ref a_UPGRADE)])) rfl (by rw [hml]; rfl) (Steps.refl _) (argsL := [(.ref a_READ)]) (rest := []) (lenOf pd_1 rfl) rfl (by show 2 * 0 + _ ≤ _; exact Nat.le_of_eq rfl) (hb hby at_75) (fun _ _ => ⟨rfl, e3, (by decide : 1 + 0 ≤ _), (by decide : 9 + 0 ≤ _)⟩)
  dsimp only [Pt.U, Pt.locs, Pt.cells, Pt.slots] at X4 l4 y4 z4 st4 hQ4
  subst l4 y4 z4
  obtain ⟨rfl, N4q, e4⟩ := hQ4
  have N4 := Fr.app N3 N4q
  obtain ⟨c5, r5, -, S5, -, H5, -⟩ := V1
  have i5 : ¬ ((3 : Int32) < 0 ∨ c5.slots.size ≤ ((3 : Int32)).toNatClampNeg) := inb_of S5 ⟨by decide, by decide⟩
  have y5 : c5.slots[((3 : Int32)).toNatClampNeg]? = some (.int (0 : Int32)) := H5 3 (by rw [S5]; decide)
  obtain ⟨fs, hr, hrun, hended, hW, hsame⟩ := X4.leave (v := some (.int (1 : Int32))) (fun h => by rw [Bd.returns] at h; cases h)
  refine ⟨_, _, pre0 _ ?_, hrun, hended, _, _, rfl, ?_, ⟨_, rfl⟩, hW, hsame.mono (by decide) (by decide)⟩
  · show Steps p.tables e below (s₁.setTop (mkF m 0 #[.val (.int p0), .val (.int p1), .unset, .unset, .unset, .unset, .unset, .unset] [])) _
    refine XS.iloadN X0.here hx rfl (hb hby at_0) rfl ?_
    show Steps p.tables e below (s₁.setTop (mkF m 1 #[.val (.int p0), .val (.int p1), .unset, .unset, .unset, .unset, .unset, .unset] [(.int p0)])) _
    refine X0.ldcInt hx hown (mvT hZ (hw _ (List.mem_of_getElem? (i := 0) rfl))) (g := (mkF m 1 #[.val (.int p0), .val (.int p1), .unset, .unset, .unset, .unset, .unset, .unset] [(.int p0)])) rfl (hb hby at_1) _ ?_
    show Steps p.tables e below (s₁.setTop (mkF m 3 #[.val (.int p0), .val (.int p1), .unset, .unset, .unset, .unset, .unset, .unset] [(.int (2147483647 : Int32)), (.int p0)])) _
    refine XS.iand X0.here hx rfl (hb hby at_3) rfl ?_
    show Steps p.tables e below (s₁.setTop (mkF m 4 #[.val (.int p0), .val (.int p1), .unset, .unset, .unset, .unset, .unset, .unset] [(.int (p0 &&& (2147483647 : Int32)))])) _
    refine XS.iconst X0.here hx rfl (hb hby at_4) ?_
    show Steps p.tables e below (s₁.setTop (mkF m 5 #[.val (.int p0), .val (.int p1), .unset, .unset, .unset, .unset, .unset, .unset] [(.int (3 : Int32)), (.int (p0 &&& (2147483647 : Int32)))])) _
    refine iremM X0 hx rfl (hb hby at_5) rfl (by decide) ?_
    show Steps p.tables e below (s₁.setTop (mkF m 6 #[.val (.int p0), .val (.int p1), .unset, .unset, .unset, .unset, .unset, .unset] [(.int ((p0 &&& (2147483647 : Int32)) % (3 : Int32)))])) _
    rw [hk0]
    show Steps p.tables e below (s₁.setTop (mkF m 6 #[.val (.int p0), .val (.int p1), .unset, .unset, .unset, .unset, .unset, .unset] [(.int (1 : Int32))])) _
    refine XS.istoreN X0.here hx rfl (hb hby at_6) rfl (l' := #[.val (.int p0), .val (.int p1), .val (.int (1 : Int32)), .unset, .unset, .unset, .unset, .unset]) rfl ?_
    show Steps p.tables e below (s₁.setTop (mkF m 7 #[.val (.int p0), .val (.int p1), .val (.int (1 : Int32)), .unset, .unset, .unset, .unset, .unset] [])) _
    refine XS.iloadN X0.here hx rfl (hb hby at_7) rfl ?_
    show Steps p.tables e below (s₁.setTop (mkF m 8 #[.val (.int p0), .val (.int p1), .val (.int (1 : Int32)), .unset, .unset, .unset, .unset, .unset] [(.int p1)])) _
    refine X0.ldcInt hx hown (mvT hZ (hw _ (List.mem_of_getElem? (i := 0) rfl))) (g := (mkF m 8 #[.val (.int p0), .val (.int p1), .val (.int (1 : Int32)), .unset, .unset, .unset, .unset, .unset] [(.int p1)])) rfl (hb hby at_8) _ ?_
    show Steps p.tables e below (s₁.setTop (mkF m 10 #[.val (.int p0), .val (.int p1), .val (.int (1 : Int32)), .unset, .unset, .unset, .unset, .unset] [(.int (2147483647 : Int32)), (.int p1)])) _
    refine XS.iand X0.here hx rfl (hb hby at_10) rfl ?_
    show Steps p.tables e below (s₁.setTop (mkF m 11 #[.val (.int p0), .val (.int p1), .val (.int (1 : Int32)), .unset, .unset, .unset, .unset, .unset] [(.int (p1 &&& (2147483647 : Int32)))])) _
    refine XS.iconst X0.here hx rfl (hb hby at_11) ?_
    show Steps p.tables e below (s₁.setTop (mkF m 12 #[.val (.int p0), .val (.int p1), .val (.int (1 : Int32)), .unset, .unset, .unset, .unset, .unset] [(.int (3 : Int32)), (.int (p1 &&& (2147483647 : Int32)))])) _
    refine iremM X0 hx rfl (hb hby at_12) rfl (by decide) ?_
    show Steps p.tables e below (s₁.setTop (mkF m 13 #[.val (.int p0), .val (.int p1), .val (.int (1 : Int32)), .unset, .unset, .unset, .unset, .unset] [(.int ((p1 &&& (2147483647 : Int32)) % (3 : Int32)))])) _
    rw [hk1]
    show Steps p.tables e below (s₁.setTop (mkF m 13 #[.val (.int p0), .val (.int p1), .val (.int (1 : Int32)), .unset, .unset, .unset, .unset, .unset] [(.int (0 : Int32))])) _
    refine XS.istoreN X0.here hx rfl (hb hby at_13) rfl (l' := #[.val (.int p0), .val (.int p1), .val (.int (1 : Int32)), .val (.int (0 : Int32)), .unset, .unset, .unset, .unset]) rfl ?_
    show Steps p.tables e below (s₁.setTop (mkF m 14 #[.val (.int p0), .val (.int p1), .val (.int (1 : Int32)), .val (.int (0 : Int32)), .unset, .unset, .unset, .unset] [])) _
    refine st1 _ ?_
    show Steps p.tables e below (T1.setTop (mkF m 59 #[.val (.int p0), .val (.int p1), .val (.int (1 : Int32)), .val (.int (0 : Int32)), .val (.ref b1), .unset, .unset, .unset] [])) _
    refine XS.iloadN X1.here hx rfl (hb hby at_59) rfl ?_
    show Steps p.tables e below (T1.setTop (mkF m 60 #[.val (.int p0), .val (.int p1), .val (.int (1 : Int32)), .val (.int (0 : Int32)), .val (.ref b1), .unset, .unset, .unset] [(.int (1 : Int32))])) _
    refine st2 _ ?_
    show Steps p.tables e below (T2.setTop (mkF m 63 #[.val (.int p0), .val (.int p1), .val (.int (1 : Int32)), .val (.int (0 : Int32)), .val (.ref b1), .unset, .unset, .unset] [(.ref a_UPGRADE)])) _
    refine XS.astore X2.here hx rfl (hb hby at_63) rfl rfl (l' := #[.val (.int p0), .val (.int p1), .val (.int (1 : Int32)), .val (.int (0 : Int32)), .val (.ref b1), .val (.ref a_UPGRADE), .unset, .unset]) rfl ?_
    show Steps p.tables e below (T2.setTop (mkF m 65 #[.val (.int p0), .val (.int p1), .val (.int (1 : Int32)), .val (.int (0 : Int32)), .val (.ref b1), .val (.ref a_UPGRADE), .unset, .unset] [])) _
    refine XS.iloadN X2.here hx rfl (hb hby at_65) rfl ?_
    show Steps p.tables e below (T2.setTop (mkF m 66 #[.val (.int p0), .val (.int p1), .val (.int (1 : Int32)), .val (.int (0 : Int32)), .val (.ref b1), .val (.ref a_UPGRADE), .unset, .unset] [(.int (0 : Int32))])) _
    refine st3 _ ?_
    show Steps p.tables e below (T3.setTop (mkF m 69 #[.val (.int p0), .val (.int p1), .val (.int (1 : Int32)), .val (.int (0 : Int32)), .val (.ref b1), .val (.ref a_UPGRADE), .unset, .unset] [(.ref a_READ)])) _
    refine XS.astore X3.here hx rfl (hb hby at_69) rfl rfl (l' := #[.val (.int p0), .val (.int p1), .val (.int (1 : Int32)), .val (.int (0 : Int32)), .val (.ref b1), .val (.ref a_UPGRADE), .val (.ref a_READ), .unset]) rfl ?_
    show Steps p.tables e below (T3.setTop (mkF m 71 #[.val (.int p0), .val (.int p1), .val (.int (1 : Int32)), .val (.int (0 : Int32)), .val (.ref b1), .val (.ref a_UPGRADE), .val (.ref a_READ), .unset] [])) _
    refine XS.aload X3.here hx rfl (hb hby at_71) rfl rfl ?_
    show Steps p.tables e below (T3.setTop (mkF m 73 #[.val (.int p0), .val (.int p1), .val (.int (1 : Int32)), .val (.int (0 : Int32)), .val (.ref b1), .val (.ref a_UPGRADE), .val (.ref a_READ), .unset] [(.ref a_UPGRADE)])) _
    refine XS.aload X3.here hx rfl (hb hby at_73) rfl rfl ?_
    show Steps p.tables e below (T3.setTop (mkF m 75 #[.val (.int p0), .val (.int p1), .val (.int (1 : Int32)), .val (.int (0 : Int32)), .val (.ref b1), .val (.ref a_UPGRADE), .val (.ref a_READ), .unset] [(.ref a_READ), (.ref a_UPGRADE)])) _
    refine st4.trans ?_
    show Steps p.tables e below (T4.setTop (mkF m 78 #[.val (.int p0), .val (.int p1), .val (.int (1 : Int32)), .val (.int (0 : Int32)), .val (.ref b1), .val (.ref a_UPGRADE), .val (.ref a_READ), .unset] [(.int (0 : Int32))])) _
    refine XS.istore X4.here hx rfl (hb hby at_78) rfl (l' := #[.val (.int p0), .val (.int p1), .val (.int (1 : Int32)), .val (.int (0 : Int32)), .val (.ref b1), .val (.ref a_UPGRADE), .val (.ref a_READ), .val (.int (0 : Int32))]) rfl ?_
    show Steps p.tables e below (T4.setTop (mkF m 80 #[.val (.int p0), .val (.int p1), .val (.int (1 : Int32)), .val (.int (0 : Int32)), .val (.ref b1), .val (.ref a_UPGRADE), .val (.ref a_READ), .val (.int (0 : Int32))] [])) _
    refine XS.iload X4.here hx rfl (hb hby at_80) rfl ?_
    show Steps p.tables e below (T4.setTop (mkF m 82 #[.val (.int p0), .val (.int p1), .val (.int (1 : Int32)), .val (.int (0 : Int32)), .val (.ref b1), .val (.ref a_UPGRADE), .val (.ref a_READ), .val (.int (0 : Int32))] [(.int (0 : Int32))])) _
    refine XS.aload X4.here hx rfl (hb hby at_82) rfl rfl ?_
    show Steps p.tables e below (T4.setTop (mkF m 84 #[.val (.int p0), .val (.int p1), .val (.int (1 : Int32)), .val (.int (0 : Int32)), .val (.ref b1), .val (.ref a_UPGRADE), .val (.ref a_READ), .val (.int (0 : Int32))] [(.ref b1), (.int (0 : Int32))])) _
    refine XS.iloadN X4.here hx rfl (hb hby at_84) rfl ?_
    show Steps p.tables e below (T4.setTop (mkF m 85 #[.val (.int p0), .val (.int p1), .val (.int (1 : Int32)), .val (.int (0 : Int32)), .val (.ref b1), .val (.ref a_UPGRADE), .val (.ref a_READ), .val (.int (0 : Int32))] [(.int (1 : Int32)), (.ref b1), (.int (0 : Int32))])) _
    refine XS.iconst X4.here hx rfl (hb hby at_85) ?_
    show Steps p.tables e below (T4.setTop (mkF m 86 #[.val (.int p0), .val (.int p1), .val (.int (1 : Int32)), .val (.int (0 : Int32)), .val (.ref b1), .val (.ref a_UPGRADE), .val (.ref a_READ), .val (.int (0 : Int32))] [(.int (3 : Int32)), (.int (1 : Int32)), (.ref b1), (.int (0 : Int32))])) _
    refine XS.imul X4.here hx rfl (hb hby at_86) rfl ?_
    show Steps p.tables e below (T4.setTop (mkF m 87 #[.val (.int p0), .val (.int p1), .val (.int (1 : Int32)), .val (.int (0 : Int32)), .val (.ref b1), .val (.ref a_UPGRADE), .val (.ref a_READ), .val (.int (0 : Int32))] [(.int ((1 : Int32) * (3 : Int32))), (.ref b1), (.int (0 : Int32))])) _
    rw [(by decide : ((1 : Int32) * (3 : Int32)) = (3 : Int32))]
    show Steps p.tables e below (T4.setTop (mkF m 87 #[.val (.int p0), .val (.int p1), .val (.int (1 : Int32)), .val (.int (0 : Int32)), .val (.ref b1), .val (.ref a_UPGRADE), .val (.ref a_READ), .val (.int (0 : Int32))] [(.int (3 : Int32)), (.ref b1), (.int (0 : Int32))])) _
    refine XS.iloadN X4.here hx rfl (hb hby at_87) rfl ?_
    show Steps p.tables e below (T4.setTop (mkF m 88 #[.val (.int p0), .val (.int p1), .val (.int (1 : Int32)), .val (.int (0 : Int32)), .val (.ref b1), .val (.ref a_UPGRADE), .val (.ref a_READ), .val (.int (0 : Int32))] [(.int (0 : Int32)), (.int (3 : Int32)), (.ref b1), (.int (0 : Int32))])) _
    refine XS.iadd X4.here hx rfl (hb hby at_88) rfl ?_
    show Steps p.tables e below (T4.setTop (mkF m 89 #[.val (.int p0), .val (.int p1), .val (.int (1 : Int32)), .val (.int (0 : Int32)), .val (.ref b1), .val (.ref a_UPGRADE), .val (.ref a_READ), .val (.int (0 : Int32))] [(.int ((3 : Int32) + (0 : Int32))), (.ref b1), (.int (0 : Int32))])) _
    rw [(by decide : ((3 : Int32) + (0 : Int32)) = (3 : Int32))]
    show Steps p.tables e below (T4.setTop (mkF m 89 #[.val (.int p0), .val (.int p1), .val (.int (1 : Int32)), .val (.int (0 : Int32)), .val (.ref b1), .val (.ref a_UPGRADE), .val (.ref a_READ), .val (.int (0 : Int32))] [(.int (3 : Int32)), (.ref b1), (.int (0 : Int32))])) _
    refine X4.baloadBooleans hx (j := (3 : Int32)) (v := (.int (0 : Int32))) (by rw [e4]; exact r5.1) (State.isArrayOf_alike hZ.alike r5.2.1) r5.2.2 i5 y5 (g := (mkF m 89 #[.val (.int p0), .val (.int p1), .val (.int (1 : Int32)), .val (.int (0 : Int32)), .val (.ref b1), .val (.ref a_UPGRADE), .val (.ref a_READ), .val (.int (0 : Int32))] [(.int (3 : Int32)), (.ref b1), (.int (0 : Int32))])) rfl rfl (hb hby at_89) _ ?_
    show Steps p.tables e below (T4.setTop (mkF m 90 #[.val (.int p0), .val (.int p1), .val (.int (1 : Int32)), .val (.int (0 : Int32)), .val (.ref b1), .val (.ref a_UPGRADE), .val (.ref a_READ), .val (.int (0 : Int32))] [(.int (0 : Int32)), (.int (0 : Int32))])) _
    refine XS.icmpNo X4.here hx rfl (hb hby at_90) rfl (by decide) ?_
    show Steps p.tables e below (T4.setTop (mkF m 93 #[.val (.int p0), .val (.int p1), .val (.int (1 : Int32)), .val (.int (0 : Int32)), .val (.ref b1), .val (.ref a_UPGRADE), .val (.ref a_READ), .val (.int (0 : Int32))] [])) _
    refine XS.iconst X4.here hx rfl (hb hby at_93) ?_
    show Steps p.tables e below (T4.setTop (mkF m 94 #[.val (.int p0), .val (.int p1), .val (.int (1 : Int32)), .val (.int (0 : Int32)), .val (.ref b1), .val (.ref a_UPGRADE), .val (.ref a_READ), .val (.int (0 : Int32))] [(.int (1 : Int32))])) _
    refine XS.goto X4.here hx rfl (pc0 := 94) (pc' := 98) rfl (hb hby at_94) (by decide) (by decide) ?_
    show Steps p.tables e below (T4.setTop (mkF m 98 #[.val (.int p0), .val (.int p1), .val (.int (1 : Int32)), .val (.int (0 : Int32)), .val (.ref b1), .val (.ref a_UPGRADE), .val (.ref a_READ), .val (.int (0 : Int32))] [(.int (1 : Int32))])) _
    exact retN X4 hx (t := .boolean) Bd.returns (by simp) (hb hby at_98) hr
  · exact ⟨rfl, N4⟩
set_option maxRecDepth 65536 in
set_option maxHeartbeats 40000000 in
theorem rm2_4 (l : Launch) (Z : State) (a0 : Array Value) (hw : ∀ d ∈ tables_1, d.before a0 Z = true) (ws : List Jvm.Cond) (p0 p1 : Int32) (a_READ a_WRITE a_UPGRADE : Addr) (h0 : Heap) (n0 : Nat) (Z0 : n0 ≤ h0.size) (FF : Facts Z h0 a_READ a_WRITE a_UPGRADE) :
    MetFree l (⟨"com/example/gridlok/gridlok/model/LockMode", "covers", "(Lcom/example/gridlok/gridlok/model/LockMode;)Z"⟩ : MethodName) (head1 (Jvm.Cond.code (⟨"com/example/gridlok/gridlok/model/LockMode", "covers", "(Lcom/example/gridlok/gridlok/model/LockMode;)Z"⟩ : MethodName) prog_9_method_5_code 2 (some .boolean) :: ws) ({ frames := 0, cells := 0, slots := 0, locals := 0 } : Room)) (fun a U => a = #[(.ref a_UPGRADE), (.ref a_UPGRADE)] ∧ Z.Warmed39 U.vm ∧ U.heap = h0) (fun _ _ _ _ _ => True) (fun _ U o U' => ∃ v L, o = .returned v ∧ own_Q (.int (1 : Int32)) h0 n0 v U'.heap L ∧ FrameEnd U o U' L ({ frames := 0, cells := 0, slots := 0, locals := 0 } : Room).cells ({ frames := 0, cells := 0, slots := 0, locals := 0 } : Room).slots) := by
  refine MetFree.of_bodySF (plainFor_of_name pn_2) hisR ?_
  intro p e s m args below meth c s₁ Bd hml0 hP hK
  obtain ⟨rfl, hZ, hh⟩ := hP
  have hx := Bd.exec
  have hby := Bd.bytes
  have hml : c.maxLocals = 2 := hml0
  have hown : s.vm.findClass "com/example/gridlok/gridlok/model/LockMode" = some m.cls := findClass_of_methodNamed Bd.named
  have X0 : Stand p l e ({ frames := 0, cells := 0, slots := 0, locals := 0 } : Room) s m #[(.ref a_UPGRADE), (.ref a_UPGRADE)] below meth c s₁ [] 0 0 := Stand.of_body Bd
  have e0 : s₁.heap = h0 := by rw [← hh, Bd.state]; rfl
  have N0 := Fr.nil n0
  have pre0 : ∀ t, Steps p.tables e below (s₁.setTop (mkF m 0 #[.val (.ref a_UPGRADE), .val (.ref a_UPGRADE)] [])) t → Steps p.tables e below (s₁.setTop (entryFrame m #[(.ref a_UPGRADE), (.ref a_UPGRADE)] 2)) t := fun t k => castTop (ef_2 m a_UPGRADE a_UPGRADE) k
  obtain ⟨T1, X1, e1, st1⟩ := getS2 X0 hx hZ hown (host := "") (Or.inl (hw _ (List.mem_of_getElem? (i := 14) rfl))) Via.refl e0 (fx_S_WRITE FF) (g := (mkF m 1 #[.val (.ref a_UPGRADE), .val (.ref a_UPGRADE)] [(.ref a_UPGRADE)])) rfl (hb hby d2_1)
  obtain ⟨fs, hr, hrun, hended, hW, hsame⟩ := X1.leave (v := some (.int (1 : Int32))) (fun h => by rw [Bd.returns] at h; cases h)
  refine ⟨_, _, pre0 _ ?_, hrun, hended, _, _, rfl, ?_, ⟨_, rfl⟩, hW, hsame.mono (by decide) (by decide)⟩
  · show Steps p.tables e below (s₁.setTop (mkF m 0 #[.val (.ref a_UPGRADE), .val (.ref a_UPGRADE)] [])) _
    refine XS.aloadN X0.here hx rfl (hb hby d2_0) rfl rfl ?_
    show Steps p.tables e below (s₁.setTop (mkF m 1 #[.val (.ref a_UPGRADE), .val (.ref a_UPGRADE)] [(.ref a_UPGRADE)])) _
    refine st1 _ ?_
    show Steps p.tables e below (T1.setTop (mkF m 4 #[.val (.ref a_UPGRADE), .val (.ref a_UPGRADE)] [(.ref a_WRITE), (.ref a_UPGRADE)])) _
    refine Jvm.RoadKit.acmp (g := (mkF m 4 #[.val (.ref a_UPGRADE), .val (.ref a_UPGRADE)] [(.ref a_WRITE), (.ref a_UPGRADE)])) X1 hx rfl rfl rfl (pc0 := 4) (pc' := 7) (same := false) rfl (hb hby d2_4) rfl (decide_eq_false fun q => Fld.ne (fx_F_UPGRADE_ordinal FF) (fx_F_WRITE_ordinal FF) (by decide) (Value.ref.inj q)) (by decide) (by decide) ?_
    show Steps p.tables e below (T1.setTop (mkF m 7 #[.val (.ref a_UPGRADE), .val (.ref a_UPGRADE)] [])) _
    refine XS.aloadN X1.here hx rfl (hb hby d2_7) rfl rfl ?_
    show Steps p.tables e below (T1.setTop (mkF m 8 #[.val (.ref a_UPGRADE), .val (.ref a_UPGRADE)] [(.ref a_UPGRADE)])) _
    refine XS.aloadN X1.here hx rfl (hb hby d2_8) rfl rfl ?_
    show Steps p.tables e below (T1.setTop (mkF m 9 #[.val (.ref a_UPGRADE), .val (.ref a_UPGRADE)] [(.ref a_UPGRADE), (.ref a_UPGRADE)])) _
    refine Jvm.RoadKit.acmp (g := (mkF m 9 #[.val (.ref a_UPGRADE), .val (.ref a_UPGRADE)] [(.ref a_UPGRADE), (.ref a_UPGRADE)])) X1 hx rfl rfl rfl (pc0 := 9) (pc' := 12) (same := true) rfl (hb hby d2_9) rfl (decide_eq_true rfl) (by decide) (by decide) ?_
    show Steps p.tables e below (T1.setTop (mkF m 12 #[.val (.ref a_UPGRADE), .val (.ref a_UPGRADE)] [])) _
    refine XS.iconst X1.here hx rfl (hb hby d2_12) ?_
    show Steps p.tables e below (T1.setTop (mkF m 13 #[.val (.ref a_UPGRADE), .val (.ref a_UPGRADE)] [(.int (1 : Int32))])) _
    refine XS.goto X1.here hx rfl (pc0 := 13) (pc' := 17) rfl (hb hby d2_13) (by decide) (by decide) ?_
    show Steps p.tables e below (T1.setTop (mkF m 17 #[.val (.ref a_UPGRADE), .val (.ref a_UPGRADE)] [(.int (1 : Int32))])) _
    exact retN X1 hx (t := .boolean) Bd.returns (by simp) (hb hby d2_17) hr
  · show own_Q _ _ _ _ T1.heap _
    exact ⟨rfl, N0, e1⟩
set_option maxRecDepth 65536 in
set_option maxHeartbeats 40000000 in
theorem rm0_4 (l : Launch) (Z : State) (a0 : Array Value) (hw : ∀ d ∈ tables_1, d.before a0 Z = true) (ws : List Jvm.Cond) (p0 p1 : Int32) (a_READ a_WRITE a_UPGRADE : Addr) (h0 : Heap) (n0 : Nat) (Z0 : n0 ≤ h0.size) (FF : Facts Z h0 a_READ a_WRITE a_UPGRADE) (hk0 : ((p0 &&& (2147483647 : Int32)) % (3 : Int32)) = (1 : Int32)) (hk1 : ((p1 &&& (2147483647 : Int32)) % (3 : Int32)) = (1 : Int32)) :
    MetFree l x (head1 (Jvm.Cond.code x code maxLocals ret :: ws) room_1) (fun a U => a = #[(.int p0), (.int p1)] ∧ Z.Warmed39 U.vm ∧ U.heap = h0) (fun _ _ _ _ _ => True) (fun _ U o U' => ∃ v L, o = .returned v ∧ (v = some (.int (1 : Int32)) ∧ Fr n0 L) ∧ FrameEnd U o U' L room_1.cells room_1.slots) := by
  refine MetFree.of_bodySF (plainFor_of_name pn_0) hisR ?_
  intro p e s m args below meth c s₁ Bd hml0 hP hK
  obtain ⟨rfl, hZ, hh⟩ := hP
  have hx := Bd.exec
  have hby := Bd.bytes
  have hml : c.maxLocals = 8 := hml0
  have hown : s.vm.findClass "com/example/gridlok/gridlok/model/LockModeCoversPinLaw" = some m.cls := findClass_of_methodNamed Bd.named
  have X0 : Stand p l e room_1 s m #[(.int p0), (.int p1)] below meth c s₁ [] 0 0 := Stand.of_body Bd
  have e0 : s₁.heap = h0 := by rw [← hh, Bd.state]; rfl
  have N0 := Fr.nil n0
  have pre0 : ∀ t, Steps p.tables e below (s₁.setTop (mkF m 0 #[.val (.int p0), .val (.int p1), .unset, .unset, .unset, .unset, .unset, .unset] [])) t → Steps p.tables e below (s₁.setTop (entryFrame m #[(.int p0), (.int p1)] maxLocals)) t := fun t k => castTop (ef_0 m p0 p1) k
  obtain ⟨T1, h1, b1, k1, lc1, X1, e1, s_b1, z1, N1, FF1, V1, st1⟩ := seg_0 (l := l) (Z := Z) hw a_READ a_WRITE a_UPGRADE p0 p1 (1 : Int32) (1 : Int32) X0 hx hZ hby hml hown e0 Z0 N0 FF
  obtain ⟨_, _, ⟨T2, L2, k2, n2⟩, -, X2, ⟨Lc2, hQ2, l2, y2, z2⟩, st2⟩ := Jvm.LawKit.callS X1 hx (y := (⟨"com/example/gridlok/gridlok/model/LockModeCoversPinLaw", "mode", "(I)Lcom/example/gridlok/gridlok/model/LockMode;"⟩ : MethodName)) hown (mvT hZ (hw _ (List.mem_of_getElem? (i := 2) rfl))) (mvT hZ (hw _ (List.mem_of_getElem? (i := 3) rfl))) (mvT hZ (hw _ (List.mem_of_getElem? (i := 4) rfl))) (mvT hZ (hw _ (List.mem_of_getElem? (i := 5) rfl))) (by decide) (backOf (W := 0) (rm1_1 l Z a0 hw [] p0 p1 a_READ a_WRITE a_UPGRADE h1 n0 (Nat.le_trans Z0 z1) FF1) hZ (hw _ (List.mem_of_getElem? (i := 5) rfl)) (hw _ (List.mem_of_getElem? (i := 4) rfl)) (by decide) (by decide)) (g := (mkF m 60 #[.val (.int p0), .val (.int p1), .val (.int (1 : Int32)), .val (.int (1 : Int32)), .val (.ref b1), .unset, .unset, .unset] [(.int (1 : Int32))])) rfl (by rw [hml]; rfl) (argsL := [(.int (1 : Int32))]) (rest := []) (lenOf pd_0 rfl) rfl (by show 2 * 0 + _ ≤ _; exact Nat.le_of_eq rfl) (hb hby at_60) (fun _ _ => ⟨rfl, e1, (by decide : 1 + 0 ≤ _), (by decide : 9 + 0 ≤ _)⟩)
  dsimp only [Pt.U, Pt.locs, Pt.cells, Pt.slots] at X2 l2 y2 z2 st2 hQ2
  subst l2 y2 z2
  obtain ⟨rfl, N2q, e2⟩ := hQ2
  have N2 := Fr.app N1 N2q
  obtain ⟨_, _, ⟨T3, L3, k3, n3⟩, -, X3, ⟨Lc3, hQ3, l3, y3, z3⟩, st3⟩ := Jvm.LawKit.callS X2 hx (y := (⟨"com/example/gridlok/gridlok/model/LockModeCoversPinLaw", "mode", "(I)Lcom/example/gridlok/gridlok/model/LockMode;"⟩ : MethodName)) hown (mvT hZ (hw _ (List.mem_of_getElem? (i := 2) rfl))) (mvT hZ (hw _ (List.mem_of_getElem? (i := 3) rfl))) (mvT hZ (hw _ (List.mem_of_getElem? (i := 4) rfl))) (mvT hZ (hw _ (List.mem_of_getElem? (i := 5) rfl))) (by decide) (backOf (W := 0) (rm1_1 l Z a0 hw [] p0 p1 a_READ a_WRITE a_UPGRADE h1 n0 (Nat.le_trans Z0 z1) FF1) hZ (hw _ (List.mem_of_getElem? (i := 5) rfl)) (hw _ (List.mem_of_getElem? (i := 4) rfl)) (by decide) (by decide)) (g := (mkF m 66 #[.val (.int p0), .val (.int p1), .val (.int (1 : Int32)), .val (.int (1 : Int32)), .val (.ref b1), .val (.ref a_UPGRADE), .unset, .unset] [(.int (1 : Int32))])) rfl (by rw [hml]; rfl) (argsL := [(.int (1 : Int32))]) (rest := []) (lenOf pd_0 rfl) rfl (by show 2 * 0 + _ ≤ _; exact Nat.le_of_eq rfl) (hb hby at_66) (fun _ _ => ⟨rfl, e2, (by decide : 1 + 0 ≤ _), (by decide : 9 + 0 ≤ _)⟩)
  dsimp only [Pt.U, Pt.locs, Pt.cells, Pt.slots] at X3 l3 y3 z3 st3 hQ3
  subst l3 y3 z3
  obtain ⟨rfl, N3q, e3⟩ := hQ3
  have N3 := Fr.app N2 N3q
  obtain ⟨cq4, kq4, q4a, q4b, q4c⟩ := isOf hZ e3 (fx_E_UPGRADE FF1)
  obtain ⟨_, _, ⟨T4, L4, k4, n4⟩, -, X4, ⟨Lc4, hQ4, l4, y4, z4⟩, st4⟩ := X3.virtualBack hx (y := (⟨"com/example/gridlok/gridlok/model/LockMode", "covers", "(Lcom/example/gridlok/gridlok/model/LockMode;)Z"⟩ : MethodName)) (z := (⟨"com/example/gridlok/gridlok/model/LockMode", "covers", "(Lcom/example/gridlok/gridlok/model/LockMode;)Z"⟩ : MethodName)) hown (mvT hZ (hw _ (List.mem_of_getElem? (i := 9) rfl))) (mvT hZ (hw _ (List.mem_of_getElem? (i := 10) rfl))) (notFace_of_selects (args := #[]) (mvT hZ (hw _ (List.mem_of_getElem? (i := 12) rfl)))) (mvT hZ (hw _ (List.mem_of_getElem? (i := 12) rfl))) (mvT hZ (hw _ (List.mem_of_getElem? (i := 11) rfl))) (by decide) (backOf (W := 0) (rm2_4 l Z a0 hw [] p0 p1 a_READ a_WRITE a_UPGRADE h1 n0 (Nat.le_trans Z0 z1) FF1) hZ (hw _ (List.mem_of_getElem? (i := 13) rfl)) (hw _ (List.mem_of_getElem? (i := 7) rfl)) (by decide) (by decide)) q4a q4c (g := (mkF m 75 #[.val (.int p0), .val (.int p1), .val (.int (1 : Int32)), .val (.int (1 : Int32)), .val (.ref b1), .val (.ref a_UPGRADE), .val (.ref a_UPGRADE), .unset] [(.ref a_UPGRADE), (.ref a_UPGRADE)])) rfl (by rw [hml]; rfl) (Steps.refl _) (argsL := [(.ref a_UPGRADE)]) (rest := []) (lenOf pd_1 rfl) rfl (by show 2 * 0 + _ ≤ _; exact Nat.le_of_eq rfl) (hb hby at_75) (fun _ _ => ⟨rfl, e3, (by decide : 1 + 0 ≤ _), (by decide : 9 + 0 ≤ _)⟩)
  dsimp only [Pt.U, Pt.locs, Pt.cells, Pt.slots] at X4 l4 y4 z4 st4 hQ4
  subst l4 y4 z4
  obtain ⟨rfl, N4q, e4⟩ := hQ4
  have N4 := Fr.app N3 N4q
  obtain ⟨c5, r5, -, S5, -, H5, -⟩ := V1
  have i5 : ¬ ((4 : Int32) < 0 ∨ c5.slots.size ≤ ((4 : Int32)).toNatClampNeg) := inb_of S5 ⟨by decide, by decide⟩
  have y5 : c5.slots[((4 : Int32)).toNatClampNeg]? = some (.int (1 : Int32)) := H5 4 (by rw [S5]; decide)
  obtain ⟨fs, hr, hrun, hended, hW, hsame⟩ := X4.leave (v := some (.int (1 : Int32))) (fun h => by rw [Bd.returns] at h; cases h)
  refine ⟨_, _, pre0 _ ?_, hrun, hended, _, _, rfl, ?_, ⟨_, rfl⟩, hW, hsame.mono (by decide) (by decide)⟩
  · show Steps p.tables e below (s₁.setTop (mkF m 0 #[.val (.int p0), .val (.int p1), .unset, .unset, .unset, .unset, .unset, .unset] [])) _
    refine XS.iloadN X0.here hx rfl (hb hby at_0) rfl ?_
    show Steps p.tables e below (s₁.setTop (mkF m 1 #[.val (.int p0), .val (.int p1), .unset, .unset, .unset, .unset, .unset, .unset] [(.int p0)])) _
    refine X0.ldcInt hx hown (mvT hZ (hw _ (List.mem_of_getElem? (i := 0) rfl))) (g := (mkF m 1 #[.val (.int p0), .val (.int p1), .unset, .unset, .unset, .unset, .unset, .unset] [(.int p0)])) rfl (hb hby at_1) _ ?_
    show Steps p.tables e below (s₁.setTop (mkF m 3 #[.val (.int p0), .val (.int p1), .unset, .unset, .unset, .unset, .unset, .unset] [(.int (2147483647 : Int32)), (.int p0)])) _
    refine XS.iand X0.here hx rfl (hb hby at_3) rfl ?_
    show Steps p.tables e below (s₁.setTop (mkF m 4 #[.val (.int p0), .val (.int p1), .unset, .unset, .unset, .unset, .unset, .unset] [(.int (p0 &&& (2147483647 : Int32)))])) _
    refine XS.iconst X0.here hx rfl (hb hby at_4) ?_
    show Steps p.tables e below (s₁.setTop (mkF m 5 #[.val (.int p0), .val (.int p1), .unset, .unset, .unset, .unset, .unset, .unset] [(.int (3 : Int32)), (.int (p0 &&& (2147483647 : Int32)))])) _
    refine iremM X0 hx rfl (hb hby at_5) rfl (by decide) ?_
    show Steps p.tables e below (s₁.setTop (mkF m 6 #[.val (.int p0), .val (.int p1), .unset, .unset, .unset, .unset, .unset, .unset] [(.int ((p0 &&& (2147483647 : Int32)) % (3 : Int32)))])) _
    rw [hk0]
    show Steps p.tables e below (s₁.setTop (mkF m 6 #[.val (.int p0), .val (.int p1), .unset, .unset, .unset, .unset, .unset, .unset] [(.int (1 : Int32))])) _
    refine XS.istoreN X0.here hx rfl (hb hby at_6) rfl (l' := #[.val (.int p0), .val (.int p1), .val (.int (1 : Int32)), .unset, .unset, .unset, .unset, .unset]) rfl ?_
    show Steps p.tables e below (s₁.setTop (mkF m 7 #[.val (.int p0), .val (.int p1), .val (.int (1 : Int32)), .unset, .unset, .unset, .unset, .unset] [])) _
    refine XS.iloadN X0.here hx rfl (hb hby at_7) rfl ?_
    show Steps p.tables e below (s₁.setTop (mkF m 8 #[.val (.int p0), .val (.int p1), .val (.int (1 : Int32)), .unset, .unset, .unset, .unset, .unset] [(.int p1)])) _
    refine X0.ldcInt hx hown (mvT hZ (hw _ (List.mem_of_getElem? (i := 0) rfl))) (g := (mkF m 8 #[.val (.int p0), .val (.int p1), .val (.int (1 : Int32)), .unset, .unset, .unset, .unset, .unset] [(.int p1)])) rfl (hb hby at_8) _ ?_
    show Steps p.tables e below (s₁.setTop (mkF m 10 #[.val (.int p0), .val (.int p1), .val (.int (1 : Int32)), .unset, .unset, .unset, .unset, .unset] [(.int (2147483647 : Int32)), (.int p1)])) _
    refine XS.iand X0.here hx rfl (hb hby at_10) rfl ?_
    show Steps p.tables e below (s₁.setTop (mkF m 11 #[.val (.int p0), .val (.int p1), .val (.int (1 : Int32)), .unset, .unset, .unset, .unset, .unset] [(.int (p1 &&& (2147483647 : Int32)))])) _
    refine XS.iconst X0.here hx rfl (hb hby at_11) ?_
    show Steps p.tables e below (s₁.setTop (mkF m 12 #[.val (.int p0), .val (.int p1), .val (.int (1 : Int32)), .unset, .unset, .unset, .unset, .unset] [(.int (3 : Int32)), (.int (p1 &&& (2147483647 : Int32)))])) _
    refine iremM X0 hx rfl (hb hby at_12) rfl (by decide) ?_
    show Steps p.tables e below (s₁.setTop (mkF m 13 #[.val (.int p0), .val (.int p1), .val (.int (1 : Int32)), .unset, .unset, .unset, .unset, .unset] [(.int ((p1 &&& (2147483647 : Int32)) % (3 : Int32)))])) _
    rw [hk1]
    show Steps p.tables e below (s₁.setTop (mkF m 13 #[.val (.int p0), .val (.int p1), .val (.int (1 : Int32)), .unset, .unset, .unset, .unset, .unset] [(.int (1 : Int32))])) _
    refine XS.istoreN X0.here hx rfl (hb hby at_13) rfl (l' := #[.val (.int p0), .val (.int p1), .val (.int (1 : Int32)), .val (.int (1 : Int32)), .unset, .unset, .unset, .unset]) rfl ?_
    show Steps p.tables e below (s₁.setTop (mkF m 14 #[.val (.int p0), .val (.int p1), .val (.int (1 : Int32)), .val (.int (1 : Int32)), .unset, .unset, .unset, .unset] [])) _
    refine st1 _ ?_
    show Steps p.tables e below (T1.setTop (mkF m 59 #[.val (.int p0), .val (.int p1), .val (.int (1 : Int32)), .val (.int (1 : Int32)), .val (.ref b1), .unset, .unset, .unset] [])) _
    refine XS.iloadN X1.here hx rfl (hb hby at_59) rfl ?_
    show Steps p.tables e below (T1.setTop (mkF m 60 #[.val (.int p0), .val (.int p1), .val (.int (1 : Int32)), .val (.int (1 : Int32)), .val (.ref b1), .unset, .unset, .unset] [(.int (1 : Int32))])) _
    refine st2 _ ?_
    show Steps p.tables e below (T2.setTop (mkF m 63 #[.val (.int p0), .val (.int p1), .val (.int (1 : Int32)), .val (.int (1 : Int32)), .val (.ref b1), .unset, .unset, .unset] [(.ref a_UPGRADE)])) _
    refine XS.astore X2.here hx rfl (hb hby at_63) rfl rfl (l' := #[.val (.int p0), .val (.int p1), .val (.int (1 : Int32)), .val (.int (1 : Int32)), .val (.ref b1), .val (.ref a_UPGRADE), .unset, .unset]) rfl ?_
    show Steps p.tables e below (T2.setTop (mkF m 65 #[.val (.int p0), .val (.int p1), .val (.int (1 : Int32)), .val (.int (1 : Int32)), .val (.ref b1), .val (.ref a_UPGRADE), .unset, .unset] [])) _
    refine XS.iloadN X2.here hx rfl (hb hby at_65) rfl ?_
    show Steps p.tables e below (T2.setTop (mkF m 66 #[.val (.int p0), .val (.int p1), .val (.int (1 : Int32)), .val (.int (1 : Int32)), .val (.ref b1), .val (.ref a_UPGRADE), .unset, .unset] [(.int (1 : Int32))])) _
    refine st3 _ ?_
    show Steps p.tables e below (T3.setTop (mkF m 69 #[.val (.int p0), .val (.int p1), .val (.int (1 : Int32)), .val (.int (1 : Int32)), .val (.ref b1), .val (.ref a_UPGRADE), .unset, .unset] [(.ref a_UPGRADE)])) _
    refine XS.astore X3.here hx rfl (hb hby at_69) rfl rfl (l' := #[.val (.int p0), .val (.int p1), .val (.int (1 : Int32)), .val (.int (1 : Int32)), .val (.ref b1), .val (.ref a_UPGRADE), .val (.ref a_UPGRADE), .unset]) rfl ?_
    show Steps p.tables e below (T3.setTop (mkF m 71 #[.val (.int p0), .val (.int p1), .val (.int (1 : Int32)), .val (.int (1 : Int32)), .val (.ref b1), .val (.ref a_UPGRADE), .val (.ref a_UPGRADE), .unset] [])) _
    refine XS.aload X3.here hx rfl (hb hby at_71) rfl rfl ?_
    show Steps p.tables e below (T3.setTop (mkF m 73 #[.val (.int p0), .val (.int p1), .val (.int (1 : Int32)), .val (.int (1 : Int32)), .val (.ref b1), .val (.ref a_UPGRADE), .val (.ref a_UPGRADE), .unset] [(.ref a_UPGRADE)])) _
    refine XS.aload X3.here hx rfl (hb hby at_73) rfl rfl ?_
    show Steps p.tables e below (T3.setTop (mkF m 75 #[.val (.int p0), .val (.int p1), .val (.int (1 : Int32)), .val (.int (1 : Int32)), .val (.ref b1), .val (.ref a_UPGRADE), .val (.ref a_UPGRADE), .unset] [(.ref a_UPGRADE), (.ref a_UPGRADE)])) _
    refine st4.trans ?_
    show Steps p.tables e below (T4.setTop (mkF m 78 #[.val (.int p0), .val (.int p1), .val (.int (1 : Int32)), .val (.int (1 : Int32)), .val (.ref b1), .val (.ref a_UPGRADE), .val (.ref a_UPGRADE), .unset] [(.int (1 : Int32))])) _
    refine XS.istore X4.here hx rfl (hb hby at_78) rfl (l' := #[.val (.int p0), .val (.int p1), .val (.int (1 : Int32)), .val (.int (1 : Int32)), .val (.ref b1), .val (.ref a_UPGRADE), .val (.ref a_UPGRADE), .val (.int (1 : Int32))]) rfl ?_
    show Steps p.tables e below (T4.setTop (mkF m 80 #[.val (.int p0), .val (.int p1), .val (.int (1 : Int32)), .val (.int (1 : Int32)), .val (.ref b1), .val (.ref a_UPGRADE), .val (.ref a_UPGRADE), .val (.int (1 : Int32))] [])) _
    refine XS.iload X4.here hx rfl (hb hby at_80) rfl ?_
    show Steps p.tables e below (T4.setTop (mkF m 82 #[.val (.int p0), .val (.int p1), .val (.int (1 : Int32)), .val (.int (1 : Int32)), .val (.ref b1), .val (.ref a_UPGRADE), .val (.ref a_UPGRADE), .val (.int (1 : Int32))] [(.int (1 : Int32))])) _
    refine XS.aload X4.here hx rfl (hb hby at_82) rfl rfl ?_
    show Steps p.tables e below (T4.setTop (mkF m 84 #[.val (.int p0), .val (.int p1), .val (.int (1 : Int32)), .val (.int (1 : Int32)), .val (.ref b1), .val (.ref a_UPGRADE), .val (.ref a_UPGRADE), .val (.int (1 : Int32))] [(.ref b1), (.int (1 : Int32))])) _
    refine XS.iloadN X4.here hx rfl (hb hby at_84) rfl ?_
    show Steps p.tables e below (T4.setTop (mkF m 85 #[.val (.int p0), .val (.int p1), .val (.int (1 : Int32)), .val (.int (1 : Int32)), .val (.ref b1), .val (.ref a_UPGRADE), .val (.ref a_UPGRADE), .val (.int (1 : Int32))] [(.int (1 : Int32)), (.ref b1), (.int (1 : Int32))])) _
    refine XS.iconst X4.here hx rfl (hb hby at_85) ?_
    show Steps p.tables e below (T4.setTop (mkF m 86 #[.val (.int p0), .val (.int p1), .val (.int (1 : Int32)), .val (.int (1 : Int32)), .val (.ref b1), .val (.ref a_UPGRADE), .val (.ref a_UPGRADE), .val (.int (1 : Int32))] [(.int (3 : Int32)), (.int (1 : Int32)), (.ref b1), (.int (1 : Int32))])) _
    refine XS.imul X4.here hx rfl (hb hby at_86) rfl ?_
    show Steps p.tables e below (T4.setTop (mkF m 87 #[.val (.int p0), .val (.int p1), .val (.int (1 : Int32)), .val (.int (1 : Int32)), .val (.ref b1), .val (.ref a_UPGRADE), .val (.ref a_UPGRADE), .val (.int (1 : Int32))] [(.int ((1 : Int32) * (3 : Int32))), (.ref b1), (.int (1 : Int32))])) _
    rw [(by decide : ((1 : Int32) * (3 : Int32)) = (3 : Int32))]
    show Steps p.tables e below (T4.setTop (mkF m 87 #[.val (.int p0), .val (.int p1), .val (.int (1 : Int32)), .val (.int (1 : Int32)), .val (.ref b1), .val (.ref a_UPGRADE), .val (.ref a_UPGRADE), .val (.int (1 : Int32))] [(.int (3 : Int32)), (.ref b1), (.int (1 : Int32))])) _
    refine XS.iloadN X4.here hx rfl (hb hby at_87) rfl ?_
    show Steps p.tables e below (T4.setTop (mkF m 88 #[.val (.int p0), .val (.int p1), .val (.int (1 : Int32)), .val (.int (1 : Int32)), .val (.ref b1), .val (.ref a_UPGRADE), .val (.ref a_UPGRADE), .val (.int (1 : Int32))] [(.int (1 : Int32)), (.int (3 : Int32)), (.ref b1), (.int (1 : Int32))])) _
    refine XS.iadd X4.here hx rfl (hb hby at_88) rfl ?_
    show Steps p.tables e below (T4.setTop (mkF m 89 #[.val (.int p0), .val (.int p1), .val (.int (1 : Int32)), .val (.int (1 : Int32)), .val (.ref b1), .val (.ref a_UPGRADE), .val (.ref a_UPGRADE), .val (.int (1 : Int32))] [(.int ((3 : Int32) + (1 : Int32))), (.ref b1), (.int (1 : Int32))])) _
    rw [(by decide : ((3 : Int32) + (1 : Int32)) = (4 : Int32))]
    show Steps p.tables e below (T4.setTop (mkF m 89 #[.val (.int p0), .val (.int p1), .val (.int (1 : Int32)), .val (.int (1 : Int32)), .val (.ref b1), .val (.ref a_UPGRADE), .val (.ref a_UPGRADE), .val (.int (1 : Int32))] [(.int (4 : Int32)), (.ref b1), (.int (1 : Int32))])) _
    refine X4.baloadBooleans hx (j := (4 : Int32)) (v := (.int (1 : Int32))) (by rw [e4]; exact r5.1) (State.isArrayOf_alike hZ.alike r5.2.1) r5.2.2 i5 y5 (g := (mkF m 89 #[.val (.int p0), .val (.int p1), .val (.int (1 : Int32)), .val (.int (1 : Int32)), .val (.ref b1), .val (.ref a_UPGRADE), .val (.ref a_UPGRADE), .val (.int (1 : Int32))] [(.int (4 : Int32)), (.ref b1), (.int (1 : Int32))])) rfl rfl (hb hby at_89) _ ?_
    show Steps p.tables e below (T4.setTop (mkF m 90 #[.val (.int p0), .val (.int p1), .val (.int (1 : Int32)), .val (.int (1 : Int32)), .val (.ref b1), .val (.ref a_UPGRADE), .val (.ref a_UPGRADE), .val (.int (1 : Int32))] [(.int (1 : Int32)), (.int (1 : Int32))])) _
    refine XS.icmpNo X4.here hx rfl (hb hby at_90) rfl (by decide) ?_
    show Steps p.tables e below (T4.setTop (mkF m 93 #[.val (.int p0), .val (.int p1), .val (.int (1 : Int32)), .val (.int (1 : Int32)), .val (.ref b1), .val (.ref a_UPGRADE), .val (.ref a_UPGRADE), .val (.int (1 : Int32))] [])) _
    refine XS.iconst X4.here hx rfl (hb hby at_93) ?_
    show Steps p.tables e below (T4.setTop (mkF m 94 #[.val (.int p0), .val (.int p1), .val (.int (1 : Int32)), .val (.int (1 : Int32)), .val (.ref b1), .val (.ref a_UPGRADE), .val (.ref a_UPGRADE), .val (.int (1 : Int32))] [(.int (1 : Int32))])) _
    refine XS.goto X4.here hx rfl (pc0 := 94) (pc' := 98) rfl (hb hby at_94) (by decide) (by decide) ?_
    show Steps p.tables e below (T4.setTop (mkF m 98 #[.val (.int p0), .val (.int p1), .val (.int (1 : Int32)), .val (.int (1 : Int32)), .val (.ref b1), .val (.ref a_UPGRADE), .val (.ref a_UPGRADE), .val (.int (1 : Int32))] [(.int (1 : Int32))])) _
    exact retN X4 hx (t := .boolean) Bd.returns (by simp) (hb hby at_98) hr
  · exact ⟨rfl, N4⟩
set_option maxRecDepth 65536 in
set_option maxHeartbeats 40000000 in
theorem rm2_5 (l : Launch) (Z : State) (a0 : Array Value) (hw : ∀ d ∈ tables_1, d.before a0 Z = true) (ws : List Jvm.Cond) (p0 p1 : Int32) (a_READ a_WRITE a_UPGRADE : Addr) (h0 : Heap) (n0 : Nat) (Z0 : n0 ≤ h0.size) (FF : Facts Z h0 a_READ a_WRITE a_UPGRADE) :
    MetFree l (⟨"com/example/gridlok/gridlok/model/LockMode", "covers", "(Lcom/example/gridlok/gridlok/model/LockMode;)Z"⟩ : MethodName) (head1 (Jvm.Cond.code (⟨"com/example/gridlok/gridlok/model/LockMode", "covers", "(Lcom/example/gridlok/gridlok/model/LockMode;)Z"⟩ : MethodName) prog_9_method_5_code 2 (some .boolean) :: ws) ({ frames := 0, cells := 0, slots := 0, locals := 0 } : Room)) (fun a U => a = #[(.ref a_UPGRADE), (.ref a_WRITE)] ∧ Z.Warmed39 U.vm ∧ U.heap = h0) (fun _ _ _ _ _ => True) (fun _ U o U' => ∃ v L, o = .returned v ∧ own_Q (.int (0 : Int32)) h0 n0 v U'.heap L ∧ FrameEnd U o U' L ({ frames := 0, cells := 0, slots := 0, locals := 0 } : Room).cells ({ frames := 0, cells := 0, slots := 0, locals := 0 } : Room).slots) := by
  refine MetFree.of_bodySF (plainFor_of_name pn_2) hisR ?_
  intro p e s m args below meth c s₁ Bd hml0 hP hK
  obtain ⟨rfl, hZ, hh⟩ := hP
  have hx := Bd.exec
  have hby := Bd.bytes
  have hml : c.maxLocals = 2 := hml0
  have hown : s.vm.findClass "com/example/gridlok/gridlok/model/LockMode" = some m.cls := findClass_of_methodNamed Bd.named
  have X0 : Stand p l e ({ frames := 0, cells := 0, slots := 0, locals := 0 } : Room) s m #[(.ref a_UPGRADE), (.ref a_WRITE)] below meth c s₁ [] 0 0 := Stand.of_body Bd
  have e0 : s₁.heap = h0 := by rw [← hh, Bd.state]; rfl
  have N0 := Fr.nil n0
  have pre0 : ∀ t, Steps p.tables e below (s₁.setTop (mkF m 0 #[.val (.ref a_UPGRADE), .val (.ref a_WRITE)] [])) t → Steps p.tables e below (s₁.setTop (entryFrame m #[(.ref a_UPGRADE), (.ref a_WRITE)] 2)) t := fun t k => castTop (ef_2 m a_UPGRADE a_WRITE) k
  obtain ⟨T1, X1, e1, st1⟩ := getS2 X0 hx hZ hown (host := "") (Or.inl (hw _ (List.mem_of_getElem? (i := 14) rfl))) Via.refl e0 (fx_S_WRITE FF) (g := (mkF m 1 #[.val (.ref a_UPGRADE), .val (.ref a_WRITE)] [(.ref a_UPGRADE)])) rfl (hb hby d2_1)
  obtain ⟨fs, hr, hrun, hended, hW, hsame⟩ := X1.leave (v := some (.int (0 : Int32))) (fun h => by rw [Bd.returns] at h; cases h)
  refine ⟨_, _, pre0 _ ?_, hrun, hended, _, _, rfl, ?_, ⟨_, rfl⟩, hW, hsame.mono (by decide) (by decide)⟩
  · show Steps p.tables e below (s₁.setTop (mkF m 0 #[.val (.ref a_UPGRADE), .val (.ref a_WRITE)] [])) _
    refine XS.aloadN X0.here hx rfl (hb hby d2_0) rfl rfl ?_
    show Steps p.tables e below (s₁.setTop (mkF m 1 #[.val (.ref a_UPGRADE), .val (.ref a_WRITE)] [(.ref a_UPGRADE)])) _
    refine st1 _ ?_
    show Steps p.tables e below (T1.setTop (mkF m 4 #[.val (.ref a_UPGRADE), .val (.ref a_WRITE)] [(.ref a_WRITE), (.ref a_UPGRADE)])) _
    refine Jvm.RoadKit.acmp (g := (mkF m 4 #[.val (.ref a_UPGRADE), .val (.ref a_WRITE)] [(.ref a_WRITE), (.ref a_UPGRADE)])) X1 hx rfl rfl rfl (pc0 := 4) (pc' := 7) (same := false) rfl (hb hby d2_4) rfl (decide_eq_false fun q => Fld.ne (fx_F_UPGRADE_ordinal FF) (fx_F_WRITE_ordinal FF) (by decide) (Value.ref.inj q)) (by decide) (by decide) ?_
    show Steps p.tables e below (T1.setTop (mkF m 7 #[.val (.ref a_UPGRADE), .val (.ref a_WRITE)] [])) _
    refine XS.aloadN X1.here hx rfl (hb hby d2_7) rfl rfl ?_
    show Steps p.tables e below (T1.setTop (mkF m 8 #[.val (.ref a_UPGRADE), .val (.ref a_WRITE)] [(.ref a_UPGRADE)])) _
    refine XS.aloadN X1.here hx rfl (hb hby d2_8) rfl rfl ?_
    show Steps p.tables e below (T1.setTop (mkF m 9 #[.val (.ref a_UPGRADE), .val (.ref a_WRITE)] [(.ref a_WRITE), (.ref a_UPGRADE)])) _
    refine Jvm.RoadKit.acmp (g := (mkF m 9 #[.val (.ref a_UPGRADE), .val (.ref a_WRITE)] [(.ref a_WRITE), (.ref a_UPGRADE)])) X1 hx rfl rfl rfl (pc0 := 9) (pc' := 16) (same := false) rfl (hb hby d2_9) rfl (decide_eq_false fun q => Fld.ne (fx_F_UPGRADE_ordinal FF) (fx_F_WRITE_ordinal FF) (by decide) (Value.ref.inj q)) (by decide) (by decide) ?_
    show Steps p.tables e below (T1.setTop (mkF m 16 #[.val (.ref a_UPGRADE), .val (.ref a_WRITE)] [])) _
    refine XS.iconst X1.here hx rfl (hb hby d2_16) ?_
    show Steps p.tables e below (T1.setTop (mkF m 17 #[.val (.ref a_UPGRADE), .val (.ref a_WRITE)] [(.int (0 : Int32))])) _
    exact retN X1 hx (t := .boolean) Bd.returns (by simp) (hb hby d2_17) hr
  · show own_Q _ _ _ _ T1.heap _
    exact ⟨rfl, N0, e1⟩
set_option maxRecDepth 65536 in
set_option maxHeartbeats 40000000 in
theorem rm0_5 (l : Launch) (Z : State) (a0 : Array Value) (hw : ∀ d ∈ tables_1, d.before a0 Z = true) (ws : List Jvm.Cond) (p0 p1 : Int32) (a_READ a_WRITE a_UPGRADE : Addr) (h0 : Heap) (n0 : Nat) (Z0 : n0 ≤ h0.size) (FF : Facts Z h0 a_READ a_WRITE a_UPGRADE) (hk0 : ((p0 &&& (2147483647 : Int32)) % (3 : Int32)) = (1 : Int32)) (hk1 : ((p1 &&& (2147483647 : Int32)) % (3 : Int32)) = (2 : Int32)) :
    MetFree l x (head1 (Jvm.Cond.code x code maxLocals ret :: ws) room_1) (fun a U => a = #[(.int p0), (.int p1)] ∧ Z.Warmed39 U.vm ∧ U.heap = h0) (fun _ _ _ _ _ => True) (fun _ U o U' => ∃ v L, o = .returned v ∧ (v = some (.int (1 : Int32)) ∧ Fr n0 L) ∧ FrameEnd U o U' L room_1.cells room_1.slots) := by
  refine MetFree.of_bodySF (plainFor_of_name pn_0) hisR ?_
  intro p e s m args below meth c s₁ Bd hml0 hP hK
  obtain ⟨rfl, hZ, hh⟩ := hP
  have hx := Bd.exec
  have hby := Bd.bytes
  have hml : c.maxLocals = 8 := hml0
  have hown : s.vm.findClass "com/example/gridlok/gridlok/model/LockModeCoversPinLaw" = some m.cls := findClass_of_methodNamed Bd.named
  have X0 : Stand p l e room_1 s m #[(.int p0), (.int p1)] below meth c s₁ [] 0 0 := Stand.of_body Bd
  have e0 : s₁.heap = h0 := by rw [← hh, Bd.state]; rfl
  have N0 := Fr.nil n0
  have pre0 : ∀ t, Steps p.tables e below (s₁.setTop (mkF m 0 #[.val (.int p0), .val (.int p1), .unset, .unset, .unset, .unset, .unset, .unset] [])) t → Steps p.tables e below (s₁.setTop (entryFrame m #[(.int p0), (.int p1)] maxLocals)) t := fun t k => castTop (ef_0 m p0 p1) k
  obtain ⟨T1, h1, b1, k1, lc1, X1, e1, s_b1, z1, N1, FF1, V1, st1⟩ := seg_0 (l := l) (Z := Z) hw a_READ a_WRITE a_UPGRADE p0 p1 (1 : Int32) (2 : Int32) X0 hx hZ hby hml hown e0 Z0 N0 FF
  obtain ⟨_, _, ⟨T2, L2, k2, n2⟩, -, X2, ⟨Lc2, hQ2, l2, y2, z2⟩, st2⟩ := Jvm.LawKit.callS X1 hx (y := (⟨"com/example/gridlok/gridlok/model/LockModeCoversPinLaw", "mode", "(I)Lcom/example/gridlok/gridlok/model/LockMode;"⟩ : MethodName)) hown (mvT hZ (hw _ (List.mem_of_getElem? (i := 2) rfl))) (mvT hZ (hw _ (List.mem_of_getElem? (i := 3) rfl))) (mvT hZ (hw _ (List.mem_of_getElem? (i := 4) rfl))) (mvT hZ (hw _ (List.mem_of_getElem? (i := 5) rfl))) (by decide) (backOf (W := 0) (rm1_1 l Z a0 hw [] p0 p1 a_READ a_WRITE a_UPGRADE h1 n0 (Nat.le_trans Z0 z1) FF1) hZ (hw _ (List.mem_of_getElem? (i := 5) rfl)) (hw _ (List.mem_of_getElem? (i := 4) rfl)) (by decide) (by decide)) (g := (mkF m 60 #[.val (.int p0), .val (.int p1), .val (.int (1 : Int32)), .val (.int (2 : Int32)), .val (.ref b1), .unset, .unset, .unset] [(.int (1 : Int32))])) rfl (by rw [hml]; rfl) (argsL := [(.int (1 : Int32))]) (rest := []) (lenOf pd_0 rfl) rfl (by show 2 * 0 + _ ≤ _; exact Nat.le_of_eq rfl) (hb hby at_60) (fun _ _ => ⟨rfl, e1, (by decide : 1 + 0 ≤ _), (by decide : 9 + 0 ≤ _)⟩)
  dsimp only [Pt.U, Pt.locs, Pt.cells, Pt.slots] at X2 l2 y2 z2 st2 hQ2
  subst l2 y2 z2
  obtain ⟨rfl, N2q, e2⟩ := hQ2
  have N2 := Fr.app N1 N2q
  obtain ⟨_, _, ⟨T3, L3, k3, n3⟩, -, X3, ⟨Lc3, hQ3, l3, y3, z3⟩, st3⟩ := Jvm.LawKit.callS X2 hx (y := (⟨"com/example/gridlok/gridlok/model/LockModeCoversPinLaw", "mode", "(I)Lcom/example/gridlok/gridlok/model/LockMode;"⟩ : MethodName)) hown (mvT hZ (hw _ (List.mem_of_getElem? (i := 2) rfl))) (mvT hZ (hw _ (List.mem_of_getElem? (i := 3) rfl))) (mvT hZ (hw _ (List.mem_of_getElem? (i := 4) rfl))) (mvT hZ (hw _ (List.mem_of_getElem? (i := 5) rfl))) (by decide) (backOf (W := 0) (rm1_2 l Z a0 hw [] p0 p1 a_READ a_WRITE a_UPGRADE h1 n0 (Nat.le_trans Z0 z1) FF1) hZ (hw _ (List.mem_of_getElem? (i := 5) rfl)) (hw _ (List.mem_of_getElem? (i := 4) rfl)) (by decide) (by decide)) (g := (mkF m 66 #[.val (.int p0), .val (.int p1), .val (.int (1 : Int32)), .val (.int (2 : Int32)), .val (.ref b1), .val (.ref a_UPGRADE), .unset, .unset] [(.int (2 : Int32))])) rfl (by rw [hml]; rfl) (argsL := [(.int (2 : Int32))]) (rest := []) (lenOf pd_0 rfl) rfl (by show 2 * 0 + _ ≤ _; exact Nat.le_of_eq rfl) (hb hby at_66) (fun _ _ => ⟨rfl, e2, (by decide : 1 + 0 ≤ _), (by decide : 9 + 0 ≤ _)⟩)
  dsimp only [Pt.U, Pt.locs, Pt.cells, Pt.slots] at X3 l3 y3 z3 st3 hQ3
  subst l3 y3 z3
  obtain ⟨rfl, N3q, e3⟩ := hQ3
  have N3 := Fr.app N2 N3q
  obtain ⟨cq4, kq4, q4a, q4b, q4c⟩ := isOf hZ e3 (fx_E_UPGRADE FF1)
  obtain ⟨_, _, ⟨T4, L4, k4, n4⟩, -, X4, ⟨Lc4, hQ4, l4, y4, z4⟩, st4⟩ := X3.virtualBack hx (y := (⟨"com/example/gridlok/gridlok/model/LockMode", "covers", "(Lcom/example/gridlok/gridlok/model/LockMode;)Z"⟩ : MethodName)) (z := (⟨"com/example/gridlok/gridlok/model/LockMode", "covers", "(Lcom/example/gridlok/gridlok/model/LockMode;)Z"⟩ : MethodName)) hown (mvT hZ (hw _ (List.mem_of_getElem? (i := 9) rfl))) (mvT hZ (hw _ (List.mem_of_getElem? (i := 10) rfl))) (notFace_of_selects (args := #[]) (mvT hZ (hw _ (List.mem_of_getElem? (i := 12) rfl)))) (mvT hZ (hw _ (List.mem_of_getElem? (i := 12) rfl))) (mvT hZ (hw _ (List.mem_of_getElem? (i := 11) rfl))) (by decide) (backOf (W := 0) (rm2_5 l Z a0 hw [] p0 p1 a_READ a_WRITE a_UPGRADE h1 n0 (Nat.le_trans Z0 z1) FF1) hZ (hw _ (List.mem_of_getElem? (i := 13) rfl)) (hw _ (List.mem_of_getElem? (i := 7) rfl)) (by decide) (by decide)) q4a q4c (g := (mkF m 75 #[.val (.int p0), .val (.int p1), .val (.int (1 : Int32)), .val (.int (2 : Int32)), .val (.ref b1), .val (.ref a_UPGRADE), .val (.ref a_WRITE), .unset] [(.ref a_WRITE), (.ref a_UPGRADE)])) rfl (by rw [hml]; rfl) (Steps.refl _) (argsL := [(.ref a_WRITE)]) (rest := []) (lenOf pd_1 rfl) rfl (by show 2 * 0 + _ ≤ _; exact Nat.le_of_eq rfl) (hb hby at_75) (fun _ _ => ⟨rfl, e3, (by decide : 1 + 0 ≤ _), (by decide : 9 + 0 ≤ _)⟩)
  dsimp only [Pt.U, Pt.locs, Pt.cells, Pt.slots] at X4 l4 y4 z4 st4 hQ4
  subst l4 y4 z4
  obtain ⟨rfl, N4q, e4⟩ := hQ4
  have N4 := Fr.app N3 N4q
  obtain ⟨c5, r5, -, S5, -, H5, -⟩ := V1
  have i5 : ¬ ((5 : Int32) < 0 ∨ c5.slots.size ≤ ((5 : Int32)).toNatClampNeg) := inb_of S5 ⟨by decide, by decide⟩
  have y5 : c5.slots[((5 : Int32)).toNatClampNeg]? = some (.int (0 : Int32)) := H5 5 (by rw [S5]; decide)
  obtain ⟨fs, hr, hrun, hended, hW, hsame⟩ := X4.leave (v := some (.int (1 : Int32))) (fun h => by rw [Bd.returns] at h; cases h)
  refine ⟨_, _, pre0 _ ?_, hrun, hended, _, _, rfl, ?_, ⟨_, rfl⟩, hW, hsame.mono (by decide) (by decide)⟩
  · show Steps p.tables e below (s₁.setTop (mkF m 0 #[.val (.int p0), .val (.int p1), .unset, .unset, .unset, .unset, .unset, .unset] [])) _
    refine XS.iloadN X0.here hx rfl (hb hby at_0) rfl ?_
    show Steps p.tables e below (s₁.setTop (mkF m 1 #[.val (.int p0), .val (.int p1), .unset, .unset, .unset, .unset, .unset, .unset] [(.int p0)])) _
    refine X0.ldcInt hx hown (mvT hZ (hw _ (List.mem_of_getElem? (i := 0) rfl))) (g := (mkF m 1 #[.val (.int p0), .val (.int p1), .unset, .unset, .unset, .unset, .unset, .unset] [(.int p0)])) rfl (hb hby at_1) _ ?_
    show Steps p.tables e below (s₁.setTop (mkF m 3 #[.val (.int p0), .val (.int p1), .unset, .unset, .unset, .unset, .unset, .unset] [(.int (2147483647 : Int32)), (.int p0)])) _
    refine XS.iand X0.here hx rfl (hb hby at_3) rfl ?_
    show Steps p.tables e below (s₁.setTop (mkF m 4 #[.val (.int p0), .val (.int p1), .unset, .unset, .unset, .unset, .unset, .unset] [(.int (p0 &&& (2147483647 : Int32)))])) _
    refine XS.iconst X0.here hx rfl (hb hby at_4) ?_
    show Steps p.tables e below (s₁.setTop (mkF m 5 #[.val (.int p0), .val (.int p1), .unset, .unset, .unset, .unset, .unset, .unset] [(.int (3 : Int32)), (.int (p0 &&& (2147483647 : Int32)))])) _
    refine iremM X0 hx rfl (hb hby at_5) rfl (by decide) ?_
    show Steps p.tables e below (s₁.setTop (mkF m 6 #[.val (.int p0), .val (.int p1), .unset, .unset, .unset, .unset, .unset, .unset] [(.int ((p0 &&& (2147483647 : Int32)) % (3 : Int32)))])) _
    rw [hk0]
    show Steps p.tables e below (s₁.setTop (mkF m 6 #[.val (.int p0), .val (.int p1), .unset, .unset, .unset, .unset, .unset, .unset] [(.int (1 : Int32))])) _
    refine XS.istoreN X0.here hx rfl (hb hby at_6) rfl (l' := #[.val (.int p0), .val (.int p1), .val (.int (1 : Int32)), .unset, .unset, .unset, .unset, .unset]) rfl ?_
    show Steps p.tables e below (s₁.setTop (mkF m 7 #[.val (.int p0), .val (.int p1), .val (.int (1 : Int32)), .unset, .unset, .unset, .unset, .unset] [])) _
    refine XS.iloadN X0.here hx rfl (hb hby at_7) rfl ?_
    show Steps p.tables e below (s₁.setTop (mkF m 8 #[.val (.int p0), .val (.int p1), .val (.int (1 : Int32)), .unset, .unset, .unset, .unset, .unset] [(.int p1)])) _
    refine X0.ldcInt hx hown (mvT hZ (hw _ (List.mem_of_getElem? (i := 0) rfl))) (g := (mkF m 8 #[.val (.int p0), .val (.int p1), .val (.int (1 : Int32)), .unset, .unset, .unset, .unset, .unset] [(.int p1)])) rfl (hb hby at_8) _ ?_
    show Steps p.tables e below (s₁.setTop (mkF m 10 #[.val (.int p0), .val (.int p1), .val (.int (1 : Int32)), .unset, .unset, .unset, .unset, .unset] [(.int (2147483647 : Int32)), (.int p1)])) _
    refine XS.iand X0.here hx rfl (hb hby at_10) rfl ?_
    show Steps p.tables e below (s₁.setTop (mkF m 11 #[.val (.int p0), .val (.int p1), .val (.int (1 : Int32)), .unset, .unset, .unset, .unset, .unset] [(.int (p1 &&& (2147483647 : Int32)))])) _
    refine XS.iconst X0.here hx rfl (hb hby at_11) ?_
    show Steps p.tables e below (s₁.setTop (mkF m 12 #[.val (.int p0), .val (.int p1), .val (.int (1 : Int32)), .unset, .unset, .unset, .unset, .unset] [(.int (3 : Int32)), (.int (p1 &&& (2147483647 : Int32)))])) _
    refine iremM X0 hx rfl (hb hby at_12) rfl (by decide) ?_
    show Steps p.tables e below (s₁.setTop (mkF m 13 #[.val (.int p0), .val (.int p1), .val (.int (1 : Int32)), .unset, .unset, .unset, .unset, .unset] [(.int ((p1 &&& (2147483647 : Int32)) % (3 : Int32)))])) _
    rw [hk1]
    show Steps p.tables e below (s₁.setTop (mkF m 13 #[.val (.int p0), .val (.int p1), .val (.int (1 : Int32)), .unset, .unset, .unset, .unset, .unset] [(.int (2 : Int32))])) _
    refine XS.istoreN X0.here hx rfl (hb hby at_13) rfl (l' := #[.val (.int p0), .val (.int p1), .val (.int (1 : Int32)), .val (.int (2 : Int32)), .unset, .unset, .unset, .unset]) rfl ?_
    show Steps p.tables e below (s₁.setTop (mkF m 14 #[.val (.int p0), .val (.int p1), .val (.int (1 : Int32)), .val (.int (2 : Int32)), .unset, .unset, .unset, .unset] [])) _
    refine st1 _ ?_
    show Steps p.tables e below (T1.setTop (mkF m 59 #[.val (.int p0), .val (.int p1), .val (.int (1 : Int32)), .val (.int (2 : Int32)), .val (.ref b1), .unset, .unset, .unset] [])) _
    refine XS.iloadN X1.here hx rfl (hb hby at_59) rfl ?_
    show Steps p.tables e below (T1.setTop (mkF m 60 #[.val (.int p0), .val (.int p1), .val (.int (1 : Int32)), .val (.int (2 : Int32)), .val (.ref b1), .unset, .unset, .unset] [(.int (1 : Int32))])) _
    refine st2 _ ?_
    show Steps p.tables e below (T2.setTop (mkF m 63 #[.val (.int p0), .val (.int p1), .val (.int (1 : Int32)), .val (.int (2 : Int32)), .val (.ref b1), .unset, .unset, .unset] [(.ref a_UPGRADE)])) _
    refine XS.astore X2.here hx rfl (hb hby at_63) rfl rfl (l' := #[.val (.int p0), .val (.int p1), .val (.int (1 : Int32)), .val (.int (2 : Int32)), .val (.ref b1), .val (.ref a_UPGRADE), .unset, .unset]) rfl ?_
    show Steps p.tables e below (T2.setTop (mkF m 65 #[.val (.int p0), .val (.int p1), .val (.int (1 : Int32)), .val (.int (2 : Int32)), .val (.ref b1), .val (.ref a_UPGRADE), .unset, .unset] [])) _
    refine XS.iloadN X2.here hx rfl (hb hby at_65) rfl ?_
    show Steps p.tables e below (T2.setTop (mkF m 66 #[.val (.int p0), .val (.int p1), .val (.int (1 : Int32)), .val (.int (2 : Int32)), .val (.ref b1), .val (.ref a_UPGRADE), .unset, .unset] [(.int (2 : Int32))])) _
    refine st3 _ ?_
    show Steps p.tables e below (T3.setTop (mkF m 69 #[.val (.int p0), .val (.int p1), .val (.int (1 : Int32)), .val (.int (2 : Int32)), .val (.ref b1), .val (.ref a_UPGRADE), .unset, .unset] [(.ref a_WRITE)])) _
    refine XS.astore X3.here hx rfl (hb hby at_69) rfl rfl (l' := #[.val (.int p0), .val (.int p1), .val (.int (1 : Int32)), .val (.int (2 : Int32)), .val (.ref b1), .val (.ref a_UPGRADE), .val (.ref a_WRITE), .unset]) rfl ?_
    show Steps p.tables e below (T3.setTop (mkF m 71 #[.val (.int p0), .val (.int p1), .val (.int (1 : Int32)), .val (.int (2 : Int32)), .val (.ref b1), .val (.ref a_UPGRADE), .val (.ref a_WRITE), .unset] [])) _
    refine XS.aload X3.here hx rfl (hb hby at_71) rfl rfl ?_
    show Steps p.tables e below (T3.setTop (mkF m 73 #[.val (.int p0), .val (.int p1), .val (.int (1 : Int32)), .val (.int (2 : Int32)), .val (.ref b1), .val (.ref a_UPGRADE), .val (.ref a_WRITE), .unset] [(.ref a_UPGRADE)])) _
    refine XS.aload X3.here hx rfl (hb hby at_73) rfl rfl ?_
    show Steps p.tables e below (T3.setTop (mkF m 75 #[.val (.int p0), .val (.int p1), .val (.int (1 : Int32)), .val (.int (2 : Int32)), .val (.ref b1), .val (.ref a_UPGRADE), .val (.ref a_WRITE), .unset] [(.ref a_WRITE), (.ref a_UPGRADE)])) _
    refine st4.trans ?_
    show Steps p.tables e below (T4.setTop (mkF m 78 #[.val (.int p0), .val (.int p1), .val (.int (1 : Int32)), .val (.int (2 : Int32)), .val (.ref b1), .val (.ref a_UPGRADE), .val (.ref a_WRITE), .unset] [(.int (0 : Int32))])) _
    refine XS.istore X4.here hx rfl (hb hby at_78) rfl (l' := #[.val (.int p0), .val (.int p1), .val (.int (1 : Int32)), .val (.int (2 : Int32)), .val (.ref b1), .val (.ref a_UPGRADE), .val (.ref a_WRITE), .val (.int (0 : Int32))]) rfl ?_
    show Steps p.tables e below (T4.setTop (mkF m 80 #[.val (.int p0), .val (.int p1), .val (.int (1 : Int32)), .val (.int (2 : Int32)), .val (.ref b1), .val (.ref a_UPGRADE), .val (.ref a_WRITE), .val (.int (0 : Int32))] [])) _
    refine XS.iload X4.here hx rfl (hb hby at_80) rfl ?_
    show Steps p.tables e below (T4.setTop (mkF m 82 #[.val (.int p0), .val (.int p1), .val (.int (1 : Int32)), .val (.int (2 : Int32)), .val (.ref b1), .val (.ref a_UPGRADE), .val (.ref a_WRITE), .val (.int (0 : Int32))] [(.int (0 : Int32))])) _
    refine XS.aload X4.here hx rfl (hb hby at_82) rfl rfl ?_
    show Steps p.tables e below (T4.setTop (mkF m 84 #[.val (.int p0), .val (.int p1), .val (.int (1 : Int32)), .val (.int (2 : Int32)), .val (.ref b1), .val (.ref a_UPGRADE), .val (.ref a_WRITE), .val (.int (0 : Int32))] [(.ref b1), (.int (0 : Int32))])) _
    refine XS.iloadN X4.here hx rfl (hb hby at_84) rfl ?_
    show Steps p.tables e below (T4.setTop (mkF m 85 #[.val (.int p0), .val (.int p1), .val (.int (1 : Int32)), .val (.int (2 : Int32)), .val (.ref b1), .val (.ref a_UPGRADE), .val (.ref a_WRITE), .val (.int (0 : Int32))] [(.int (1 : Int32)), (.ref b1), (.int (0 : Int32))])) _
    refine XS.iconst X4.here hx rfl (hb hby at_85) ?_
    show Steps p.tables e below (T4.setTop (mkF m 86 #[.val (.int p0), .val (.int p1), .val (.int (1 : Int32)), .val (.int (2 : Int32)), .val (.ref b1), .val (.ref a_UPGRADE), .val (.ref a_WRITE), .val (.int (0 : Int32))] [(.int (3 : Int32)), (.int (1 : Int32)), (.ref b1), (.int (0 : Int32))])) _
    refine XS.imul X4.here hx rfl (hb hby at_86) rfl ?_
    show Steps p.tables e below (T4.setTop (mkF m 87 #[.val (.int p0), .val (.int p1), .val (.int (1 : Int32)), .val (.int (2 : Int32)), .val (.ref b1), .val (.ref a_UPGRADE), .val (.ref a_WRITE), .val (.int (0 : Int32))] [(.int ((1 : Int32) * (3 : Int32))), (.ref b1), (.int (0 : Int32))])) _
    rw [(by decide : ((1 : Int32) * (3 : Int32)) = (3 : Int32))]
    show Steps p.tables e below (T4.setTop (mkF m 87 #[.val (.int p0), .val (.int p1), .val (.int (1 : Int32)), .val (.int (2 : Int32)), .val (.ref b1), .val (.ref a_UPGRADE), .val (.ref a_WRITE), .val (.int (0 : Int32))] [(.int (3 : Int32)), (.ref b1), (.int (0 : Int32))])) _
    refine XS.iloadN X4.here hx rfl (hb hby at_87) rfl ?_
    show Steps p.tables e below (T4.setTop (mkF m 88 #[.val (.int p0), .val (.int p1), .val (.int (1 : Int32)), .val (.int (2 : Int32)), .val (.ref b1), .val (.ref a_UPGRADE), .val (.ref a_WRITE), .val (.int (0 : Int32))] [(.int (2 : Int32)), (.int (3 : Int32)), (.ref b1), (.int (0 : Int32))])) _
    refine XS.iadd X4.here hx rfl (hb hby at_88) rfl ?_
    show Steps p.tables e below (T4.setTop (mkF m 89 #[.val (.int p0), .val (.int p1), .val (.int (1 : Int32)), .val (.int (2 : Int32)), .val (.ref b1), .val (.ref a_UPGRADE), .val (.ref a_WRITE), .val (.int (0 : Int32))] [(.int ((3 : Int32) + (2 : Int32))), (.ref b1), (.int (0 : Int32))])) _
    rw [(by decide : ((3 : Int32) + (2 : Int32)) = (5 : Int32))]
    show Steps p.tables e below (T4.setTop (mkF m 89 #[.val (.int p0), .val (.int p1), .val (.int (1 : Int32)), .val (.int (2 : Int32)), .val (.ref b1), .val (.ref a_UPGRADE), .val (.ref a_WRITE), .val (.int (0 : Int32))] [(.int (5 : Int32)), (.ref b1), (.int (0 : Int32))])) _
    refine X4.baloadBooleans hx (j := (5 : Int32)) (v := (.int (0 : Int32))) (by rw [e4]; exact r5.1) (State.isArrayOf_alike hZ.alike r5.2.1) r5.2.2 i5 y5 (g := (mkF m 89 #[.val (.int p0), .val (.int p1), .val (.int (1 : Int32)), .val (.int (2 : Int32)), .val (.ref b1), .val (.ref a_UPGRADE), .val (.ref a_WRITE), .val (.int (0 : Int32))] [(.int (5 : Int32)), (.ref b1), (.int (0 : Int32))])) rfl rfl (hb hby at_89) _ ?_
    show Steps p.tables e below (T4.setTop (mkF m 90 #[.val (.int p0), .val (.int p1), .val (.int (1 : Int32)), .val (.int (2 : Int32)), .val (.ref b1), .val (.ref a_UPGRADE), .val (.ref a_WRITE), .val (.int (0 : Int32))] [(.int (0 : Int32)), (.int (0 : Int32))])) _
    refine XS.icmpNo X4.here hx rfl (hb hby at_90) rfl (by decide) ?_
    show Steps p.tables e below (T4.setTop (mkF m 93 #[.val (.int p0), .val (.int p1), .val (.int (1 : Int32)), .val (.int (2 : Int32)), .val (.ref b1), .val (.ref a_UPGRADE), .val (.ref a_WRITE), .val (.int (0 : Int32))] [])) _
    refine XS.iconst X4.here hx rfl (hb hby at_93) ?_
    show Steps p.tables e below (T4.setTop (mkF m 94 #[.val (.int p0), .val (.int p1), .val (.int (1 : Int32)), .val (.int (2 : Int32)), .val (.ref b1), .val (.ref a_UPGRADE), .val (.ref a_WRITE), .val (.int (0 : Int32))] [(.int (1 : Int32))])) _
    refine XS.goto X4.here hx rfl (pc0 := 94) (pc' := 98) rfl (hb hby at_94) (by decide) (by decide) ?_
    show Steps p.tables e below (T4.setTop (mkF m 98 #[.val (.int p0), .val (.int p1), .val (.int (1 : Int32)), .val (.int (2 : Int32)), .val (.ref b1), .val (.ref a_UPGRADE), .val (.ref a_WRITE), .val (.int (0 : Int32))] [(.int (1 : Int32))])) _
    exact retN X4 hx (t := .boolean) Bd.returns (by simp) (hb hby at_98) hr
  · exact ⟨rfl, N4⟩
set_option maxRecDepth 65536 in
set_option maxHeartbeats 40000000 in
theorem rm2_6 (l : Launch) (Z : State) (a0 : Array Value) (hw : ∀ d ∈ tables_1, d.before a0 Z = true) (ws : List Jvm.Cond) (p0 p1 : Int32) (a_READ a_WRITE a_UPGRADE : Addr) (h0 : Heap) (n0 : Nat) (Z0 : n0 ≤ h0.size) (FF : Facts Z h0 a_READ a_WRITE a_UPGRADE) :
    MetFree l (⟨"com/example/gridlok/gridlok/model/LockMode", "covers", "(Lcom/example/gridlok/gridlok/model/LockMode;)Z"⟩ : MethodName) (head1 (Jvm.Cond.code (⟨"com/example/gridlok/gridlok/model/LockMode", "covers", "(Lcom/example/gridlok/gridlok/model/LockMode;)Z"⟩ : MethodName) prog_9_method_5_code 2 (some .boolean) :: ws) ({ frames := 0, cells := 0, slots := 0, locals := 0 } : Room)) (fun a U => a = #[(.ref a_WRITE), (.ref a_READ)] ∧ Z.Warmed39 U.vm ∧ U.heap = h0) (fun _ _ _ _ _ => True) (fun _ U o U' => ∃ v L, o = .returned v ∧ own_Q (.int (1 : Int32)) h0 n0 v U'.heap L ∧ FrameEnd U o U' L ({ frames := 0, cells := 0, slots := 0, locals := 0 } : Room).cells ({ frames := 0, cells := 0, slots := 0, locals := 0 } : Room).slots) := by
  refine MetFree.of_bodySF (plainFor_of_name pn_2) hisR ?_
  intro p e s m args below meth c s₁ Bd hml0 hP hK
  obtain ⟨rfl, hZ, hh⟩ := hP
  have hx := Bd.exec
  have hby := Bd.bytes
  have hml : c.maxLocals = 2 := hml0
  have hown : s.vm.findClass "com/example/gridlok/gridlok/model/LockMode" = some m.cls := findClass_of_methodNamed Bd.named
  have X0 : Stand p l e ({ frames := 0, cells := 0, slots := 0, locals := 0 } : Room) s m #[(.ref a_WRITE), (.ref a_READ)] below meth c s₁ [] 0 0 := Stand.of_body Bd
  have e0 : s₁.heap = h0 := by rw [← hh, Bd.state]; rfl
  have N0 := Fr.nil n0
  have pre0 : ∀ t, Steps p.tables e below (s₁.setTop (mkF m 0 #[.val (.ref a_WRITE), .val (.ref a_READ)] [])) t → Steps p.tables e below (s₁.setTop (entryFrame m #[(.ref a_WRITE), (.ref a_READ)] 2)) t := fun t k => castTop (ef_2 m a_WRITE a_READ) k
  obtain ⟨T1, X1, e1, st1⟩ := getS2 X0 hx hZ hown (host := "") (Or.inl (hw _ (List.mem_of_getElem? (i := 14) rfl))) Via.refl e0 (fx_S_WRITE FF) (g := (mkF m 1 #[.val (.ref a_WRITE), .val (.ref a_READ)] [(.ref a_WRITE)])) rfl (hb hby d2_1)
  obtain ⟨fs, hr, hrun, hended, hW, hsame⟩ := X1.leave (v := some (.int (1 : Int32))) (fun h => by rw [Bd.returns] at h; cases h)
  refine ⟨_, _, pre0 _ ?_, hrun, hended, _, _, rfl, ?_, ⟨_, rfl⟩, hW, hsame.mono (by decide) (by decide)⟩
  · show Steps p.tables e below (s₁.setTop (mkF m 0 #[.val (.ref a_WRITE), .val (.ref a_READ)] [])) _
    refine XS.aloadN X0.here hx rfl (hb hby d2_0) rfl rfl ?_
    show Steps p.tables e below (s₁.setTop (mkF m 1 #[.val (.ref a_WRITE), .val (.ref a_READ)] [(.ref a_WRITE)])) _
    refine st1 _ ?_
    show Steps p.tables e below (T1.setTop (mkF m 4 #[.val (.ref a_WRITE), .val (.ref a_READ)] [(.ref a_WRITE), (.ref a_WRITE)])) _
    refine Jvm.RoadKit.acmp (g := (mkF m 4 #[.val (.ref a_WRITE), .val (.ref a_READ)] [(.ref a_WRITE), (.ref a_WRITE)])) X1 hx rfl rfl rfl (pc0 := 4) (pc' := 12) (same := true) rfl (hb hby d2_4) rfl (decide_eq_true rfl) (by decide) (by decide) ?_
    show Steps p.tables e below (T1.setTop (mkF m 12 #[.val (.ref a_WRITE), .val (.ref a_READ)] [])) _
    refine XS.iconst X1.here hx rfl (hb hby d2_12) ?_
    show Steps p.tables e below (T1.setTop (mkF m 13 #[.val (.ref a_WRITE), .val (.ref a_READ)] [(.int (1 : Int32))])) _
    refine XS.goto X1.here hx rfl (pc0 := 13) (pc' := 17) rfl (hb hby d2_13) (by decide) (by decide) ?_
    show Steps p.tables e below (T1.setTop (mkF m 17 #[.val (.ref a_WRITE), .val (.ref a_READ)] [(.int (1 : Int32))])) _
    exact retN X1 hx (t := .boolean) Bd.returns (by simp) (hb hby d2_17) hr
  · show own_Q _ _ _ _ T1.heap _
    exact ⟨rfl, N0, e1⟩
set_option maxRecDepth 65536 in
set_option maxHeartbeats 40000000 in
theorem rm0_6 (l : Launch) (Z : State) (a0 : Array Value) (hw : ∀ d ∈ tables_1, d.before a0 Z = true) (ws : List Jvm.Cond) (p0 p1 : Int32) (a_READ a_WRITE a_UPGRADE : Addr) (h0 : Heap) (n0 : Nat) (Z0 : n0 ≤ h0.size) (FF : Facts Z h0 a_READ a_WRITE a_UPGRADE) (hk0 : ((p0 &&& (2147483647 : Int32)) % (3 : Int32)) = (2 : Int32)) (hk1 : ((p1 &&& (2147483647 : Int32)) % (3 : Int32)) = (0 : Int32)) :
    MetFree l x (head1 (Jvm.Cond.code x code maxLocals ret :: ws) room_1) (fun a U => a = #[(.int p0), (.int p1)] ∧ Z.Warmed39 U.vm ∧ U.heap = h0) (fun _ _ _ _ _ => True) (fun _ U o U' => ∃ v L, o = .returned v ∧ (v = some (.int (1 : Int32)) ∧ Fr n0 L) ∧ FrameEnd U o U' L room_1.cells room_1.slots) := by
  refine MetFree.of_bodySF (plainFor_of_name pn_0) hisR ?_
  intro p e s m args below meth c s₁ Bd hml0 hP hK
  obtain ⟨rfl, hZ, hh⟩ := hP
  have hx := Bd.exec
  have hby := Bd.bytes
  have hml : c.maxLocals = 8 := hml0
  have hown : s.vm.findClass "com/example/gridlok/gridlok/model/LockModeCoversPinLaw" = some m.cls := findClass_of_methodNamed Bd.named
  have X0 : Stand p l e room_1 s m #[(.int p0), (.int p1)] below meth c s₁ [] 0 0 := Stand.of_body Bd
  have e0 : s₁.heap = h0 := by rw [← hh, Bd.state]; rfl
  have N0 := Fr.nil n0
  have pre0 : ∀ t, Steps p.tables e below (s₁.setTop (mkF m 0 #[.val (.int p0), .val (.int p1), .unset, .unset, .unset, .unset, .unset, .unset] [])) t → Steps p.tables e below (s₁.setTop (entryFrame m #[(.int p0), (.int p1)] maxLocals)) t := fun t k => castTop (ef_0 m p0 p1) k
  obtain ⟨T1, h1, b1, k1, lc1, X1, e1, s_b1, z1, N1, FF1, V1, st1⟩ := seg_0 (l := l) (Z := Z) hw a_READ a_WRITE a_UPGRADE p0 p1 (2 : Int32) (0 : Int32) X0 hx hZ hby hml hown e0 Z0 N0 FF
  obtain ⟨_, _, ⟨T2, L2, k2, n2⟩, -, X2, ⟨Lc2, hQ2, l2, y2, z2⟩, st2⟩ := Jvm.LawKit.callS X1 hx (y := (⟨"com/example/gridlok/gridlok/model/LockModeCoversPinLaw", "mode", "(I)Lcom/example/gridlok/gridlok/model/LockMode;"⟩ : MethodName)) hown (mvT hZ (hw _ (List.mem_of_getElem? (i := 2) rfl))) (mvT hZ (hw _ (List.mem_of_getElem? (i := 3) rfl))) (mvT hZ (hw _ (List.mem_of_getElem? (i := 4) rfl))) (mvT hZ (hw _ (List.mem_of_getElem? (i := 5) rfl))) (by decide) (backOf (W := 0) (rm1_2 l Z a0 hw [] p0 p1 a_READ a_WRITE a_UPGRADE h1 n0 (Nat.le_trans Z0 z1) FF1) hZ (hw _ (List.mem_of_getElem? (i := 5) rfl)) (hw _ (List.mem_of_getElem? (i := 4) rfl)) (by decide) (by decide)) (g := (mkF m 60 #[.val (.int p0), .val (.int p1), .val (.int (2 : Int32)), .val (.int (0 : Int32)), .val (.ref b1), .unset, .unset, .unset] [(.int (2 : Int32))])) rfl (by rw [hml]; rfl) (argsL := [(.int (2 : Int32))]) (rest := []) (lenOf pd_0 rfl) rfl (by show 2 * 0 + _ ≤ _; exact Nat.le_of_eq rfl) (hb hby at_60) (fun _ _ => ⟨rfl, e1, (by decide : 1 + 0 ≤ _), (by decide : 9 + 0 ≤ _)⟩)
  dsimp only [Pt.U, Pt.locs, Pt.cells, Pt.slots] at X2 l2 y2 z2 st2 hQ2
  subst l2 y2 z2
  obtain ⟨rfl, N2q, e2⟩ := hQ2
  have N2 := Fr.app N1 N2q
  obtain ⟨_, _, ⟨T3, L3, k3, n3⟩, -, X3, ⟨Lc3, hQ3, l3, y3, z3⟩, st3⟩ := Jvm.LawKit.callS X2 hx (y := (⟨"com/example/gridlok/gridlok/model/LockModeCoversPinLaw", "mode", "(I)Lcom/example/gridlok/gridlok/model/LockMode;"⟩ : MethodName)) hown (mvT hZ (hw _ (List.mem_of_getElem? (i := 2) rfl))) (mvT hZ (hw _ (List.mem_of_getElem? (i := 3) rfl))) (mvT hZ (hw _ (List.mem_of_getElem? (i := 4) rfl))) (mvT hZ (hw _ (List.mem_of_getElem? (i := 5) rfl))) (by decide) (backOf (W := 0) (rm1_0 l Z a0 hw [] p0 p1 a_READ a_WRITE a_UPGRADE h1 n0 (Nat.le_trans Z0 z1) FF1) hZ (hw _ (List.mem_of_getElem? (i := 5) rfl)) (hw _ (List.mem_of_getElem? (i := 4) rfl)) (by decide) (by decide)) (g := (mkF m 66 #[.val (.int p0), .val (.int p1), .val (.int (2 : Int32)), .val (.int (0 : Int32)), .val (.ref b1), .val (.ref a_WRITE), .unset, .unset] [(.int (0 : Int32))])) rfl (by rw [hml]; rfl) (argsL := [(.int (0 : Int32))]) (rest := []) (lenOf pd_0 rfl) rfl (by show 2 * 0 + _ ≤ _; exact Nat.le_of_eq rfl) (hb hby at_66) (fun _ _ => ⟨rfl, e2, (by decide : 1 + 0 ≤ _), (by decide : 9 + 0 ≤ _)⟩)
  dsimp only [Pt.U, Pt.locs, Pt.cells, Pt.slots] at X3 l3 y3 z3 st3 hQ3
  subst l3 y3 z3
  obtain ⟨rfl, N3q, e3⟩ := hQ3
  have N3 := Fr.app N2 N3q
  obtain ⟨cq4, kq4, q4a, q4b, q4c⟩ := isOf hZ e3 (fx_E_WRITE FF1)
  obtain ⟨_, _, ⟨T4, L4, k4, n4⟩, -, X4, ⟨Lc4, hQ4, l4, y4, z4⟩, st4⟩ := X3.virtualBack hx (y := (⟨"com/example/gridlok/gridlok/model/LockMode", "covers", "(Lcom/example/gridlok/gridlok/model/LockMode;)Z"⟩ : MethodName)) (z := (⟨"com/example/gridlok/gridlok/model/LockMode", "covers", "(Lcom/example/gridlok/gridlok/model/LockMode;)Z"⟩ : MethodName)) hown (mvT hZ (hw _ (List.mem_of_getElem? (i := 9) rfl))) (mvT hZ (hw _ (List.mem_of_getElem? (i := 10) rfl))) (notFace_of_selects (args := #[]) (mvT hZ (hw _ (List.mem_of_getElem? (i := 12) rfl)))) (mvT hZ (hw _ (List.mem_of_getElem? (i := 12) rfl))) (mvT hZ (hw _ (List.mem_of_getElem? (i := 11) rfl))) (by decide) (backOf (W := 0) (rm2_6 l Z a0 hw [] p0 p1 a_READ a_WRITE a_UPGRADE h1 n0 (Nat.le_trans Z0 z1) FF1) hZ (hw _ (List.mem_of_getElem? (i := 13) rfl)) (hw _ (List.mem_of_getElem? (i := 7) rfl)) (by decide) (by decide)) q4a q4c (g := (mkF m 75 #[.val (.int p0), .val (.int p1), .val (.int (2 : Int32)), .val (.int (0 : Int32)), .val (.ref b1), .val (.ref a_WRITE), .val (.ref a_READ), .unset] [(.ref a_READ), (.ref a_WRITE)])) rfl (by rw [hml]; rfl) (Steps.refl _) (argsL := [(.ref a_READ)]) (rest := []) (lenOf pd_1 rfl) rfl (by show 2 * 0 + _ ≤ _; exact Nat.le_of_eq rfl) (hb hby at_75) (fun _ _ => ⟨rfl, e3, (by decide : 1 + 0 ≤ _), (by decide : 9 + 0 ≤ _)⟩)
  dsimp only [Pt.U, Pt.locs, Pt.cells, Pt.slots] at X4 l4 y4 z4 st4 hQ4
  subst l4 y4 z4
  obtain ⟨rfl, N4q, e4⟩ := hQ4
  have N4 := Fr.app N3 N4q
  obtain ⟨c5, r5, -, S5, -, H5, -⟩ := V1
  have i5 : ¬ ((6 : Int32) < 0 ∨ c5.slots.size ≤ ((6 : Int32)).toNatClampNeg) := inb_of S5 ⟨by decide, by decide⟩
  have y5 : c5.slots[((6 : Int32)).toNatClampNeg]? = some (.int (1 : Int32)) := H5 6 (by rw [S5]; decide)
  obtain ⟨fs, hr, hrun, hended, hW, hsame⟩ := X4.leave (v := some (.int (1 : Int32))) (fun h => by rw [Bd.returns] at h; cases h)
  refine ⟨_, _, pre0 _ ?_, hrun, hended, _, _, rfl, ?_, ⟨_, rfl⟩, hW, hsame.mono (by decide) (by decide)⟩
  · show Steps p.tables e below (s₁.setTop (mkF m 0 #[.val (.int p0), .val (.int p1), .unset, .unset, .unset, .unset, .unset, .unset] [])) _
    refine XS.iloadN X0.here hx rfl (hb hby at_0) rfl ?_
    show Steps p.tables e below (s₁.setTop (mkF m 1 #[.val (.int p0), .val (.int p1), .unset, .unset, .unset, .unset, .unset, .unset] [(.int p0)])) _
    refine X0.ldcInt hx hown (mvT hZ (hw _ (List.mem_of_getElem? (i := 0) rfl))) (g := (mkF m 1 #[.val (.int p0), .val (.int p1), .unset, .unset, .unset, .unset, .unset, .unset] [(.int p0)])) rfl (hb hby at_1) _ ?_
    show Steps p.tables e below (s₁.setTop (mkF m 3 #[.val (.int p0), .val (.int p1), .unset, .unset, .unset, .unset, .unset, .unset] [(.int (2147483647 : Int32)), (.int p0)])) _
    refine XS.iand X0.here hx rfl (hb hby at_3) rfl ?_
    show Steps p.tables e below (s₁.setTop (mkF m 4 #[.val (.int p0), .val (.int p1), .unset, .unset, .unset, .unset, .unset, .unset] [(.int (p0 &&& (2147483647 : Int32)))])) _
    refine XS.iconst X0.here hx rfl (hb hby at_4) ?_
    show Steps p.tables e below (s₁.setTop (mkF m 5 #[.val (.int p0), .val (.int p1), .unset, .unset, .unset, .unset, .unset, .unset] [(.int (3 : Int32)), (.int (p0 &&& (2147483647 : Int32)))])) _
    refine iremM X0 hx rfl (hb hby at_5) rfl (by decide) ?_
    show Steps p.tables e below (s₁.setTop (mkF m 6 #[.val (.int p0), .val (.int p1), .unset, .unset, .unset, .unset, .unset, .unset] [(.int ((p0 &&& (2147483647 : Int32)) % (3 : Int32)))])) _
    rw [hk0]
    show Steps p.tables e below (s₁.setTop (mkF m 6 #[.val (.int p0), .val (.int p1), .unset, .unset, .unset, .unset, .unset, .unset] [(.int (2 : Int32))])) _
    refine XS.istoreN X0.here hx rfl (hb hby at_6) rfl (l' := #[.val (.int p0), .val (.int p1), .val (.int (2 : Int32)), .unset, .unset, .unset, .unset, .unset]) rfl ?_
    show Steps p.tables e below (s₁.setTop (mkF m 7 #[.val (.int p0), .val (.int p1), .val (.int (2 : Int32)), .unset, .unset, .unset, .unset, .unset] [])) _
    refine XS.iloadN X0.here hx rfl (hb hby at_7) rfl ?_
    show Steps p.tables e below (s₁.setTop (mkF m 8 #[.val (.int p0), .val (.int p1), .val (.int (2 : Int32)), .unset, .unset, .unset, .unset, .unset] [(.int p1)])) _
    refine X0.ldcInt hx hown (mvT hZ (hw _ (List.mem_of_getElem? (i := 0) rfl))) (g := (mkF m 8 #[.val (.int p0), .val (.int p1), .val (.int (2 : Int32)), .unset, .unset, .unset, .unset, .unset] [(.int p1)])) rfl (hb hby at_8) _ ?_
    show Steps p.tables e below (s₁.setTop (mkF m 10 #[.val (.int p0), .val (.int p1), .val (.int (2 : Int32)), .unset, .unset, .unset, .unset, .unset] [(.int (2147483647 : Int32)), (.int p1)])) _
    refine XS.iand X0.here hx rfl (hb hby at_10) rfl ?_
    show Steps p.tables e below (s₁.setTop (mkF m 11 #[.val (.int p0), .val (.int p1), .val (.int (2 : Int32)), .unset, .unset, .unset, .unset, .unset] [(.int (p1 &&& (2147483647 : Int32)))])) _
    refine XS.iconst X0.here hx rfl (hb hby at_11) ?_
    show Steps p.tables e below (s₁.setTop (mkF m 12 #[.val (.int p0), .val (.int p1), .val (.int (2 : Int32)), .unset, .unset, .unset, .unset, .unset] [(.int (3 : Int32)), (.int (p1 &&& (2147483647 : Int32)))])) _
    refine iremM X0 hx rfl (hb hby at_12) rfl (by decide) ?_
    show Steps p.tables e below (s₁.setTop (mkF m 13 #[.val (.int p0), .val (.int p1), .val (.int (2 : Int32)), .unset, .unset, .unset, .unset, .unset] [(.int ((p1 &&& (2147483647 : Int32)) % (3 : Int32)))])) _
    rw [hk1]
    show Steps p.tables e below (s₁.setTop (mkF m 13 #[.val (.int p0), .val (.int p1), .val (.int (2 : Int32)), .unset, .unset, .unset, .unset, .unset] [(.int (0 : Int32))])) _
    refine XS.istoreN X0.here hx rfl (hb hby at_13) rfl (l' := #[.val (.int p0), .val (.int p1), .val (.int (2 : Int32)), .val (.int (0 : Int32)), .unset, .unset, .unset, .unset]) rfl ?_
    show Steps p.tables e below (s₁.setTop (mkF m 14 #[.val (.int p0), .val (.int p1), .val (.int (2 : Int32)), .val (.int (0 : Int32)), .unset, .unset, .unset, .unset] [])) _
    refine st1 _ ?_
    show Steps p.tables e below (T1.setTop (mkF m 59 #[.val (.int p0), .val (.int p1), .val (.int (2 : Int32)), .val (.int (0 : Int32)), .val (.ref b1), .unset, .unset, .unset] [])) _
    refine XS.iloadN X1.here hx rfl (hb hby at_59) rfl ?_
    show Steps p.tables e below (T1.setTop (mkF m 60 #[.val (.int p0), .val (.int p1), .val (.int (2 : Int32)), .val (.int (0 : Int32)), .val (.ref b1), .unset, .unset, .unset] [(.int (2 : Int32))])) _
    refine st2 _ ?_
    show Steps p.tables e below (T2.setTop (mkF m 63 #[.val (.int p0), .val (.int p1), .val (.int (2 : Int32)), .val (.int (0 : Int32)), .val (.ref b1), .unset, .unset, .unset] [(.ref a_WRITE)])) _
    refine XS.astore X2.here hx rfl (hb hby at_63) rfl rfl (l' := #[.val (.int p0), .val (.int p1), .val (.int (2 : Int32)), .val (.int (0 : Int32)), .val (.ref b1), .val (.ref a_WRITE), .unset, .unset]) rfl ?_
    show Steps p.tables e below (T2.setTop (mkF m 65 #[.val (.int p0), .val (.int p1), .val (.int (2 : Int32)), .val (.int (0 : Int32)), .val (.ref b1), .val (.ref a_WRITE), .unset, .unset] [])) _
    refine XS.iloadN X2.here hx rfl (hb hby at_65) rfl ?_
    show Steps p.tables e below (T2.setTop (mkF m 66 #[.val (.int p0), .val (.int p1), .val (.int (2 : Int32)), .val (.int (0 : Int32)), .val (.ref b1), .val (.ref a_WRITE), .unset, .unset] [(.int (0 : Int32))])) _
    refine st3 _ ?_
    show Steps p.tables e below (T3.setTop (mkF m 69 #[.val (.int p0), .val (.int p1), .val (.int (2 : Int32)), .val (.int (0 : Int32)), .val (.ref b1), .val (.ref a_WRITE), .unset, .unset] [(.ref a_READ)])) _
    refine XS.astore X3.here hx rfl (hb hby at_69) rfl rfl (l' := #[.val (.int p0), .val (.int p1), .val (.int (2 : Int32)), .val (.int (0 : Int32)), .val (.ref b1), .val (.ref a_WRITE), .val (.ref a_READ), .unset]) rfl ?_
    show Steps p.tables e below (T3.setTop (mkF m 71 #[.val (.int p0), .val (.int p1), .val (.int (2 : Int32)), .val (.int (0 : Int32)), .val (.ref b1), .val (.ref a_WRITE), .val (.ref a_READ), .unset] [])) _
    refine XS.aload X3.here hx rfl (hb hby at_71) rfl rfl ?_
    show Steps p.tables e below (T3.setTop (mkF m 73 #[.val (.int p0), .val (.int p1), .val (.int (2 : Int32)), .val (.int (0 : Int32)), .val (.ref b1), .val (.ref a_WRITE), .val (.ref a_READ), .unset] [(.ref a_WRITE)])) _
    refine XS.aload X3.here hx rfl (hb hby at_73) rfl rfl ?_
    show Steps p.tables e below (T3.setTop (mkF m 75 #[.val (.int p0), .val (.int p1), .val (.int (2 : Int32)), .val (.int (0 : Int32)), .val (.ref b1), .val (.ref a_WRITE), .val (.ref a_READ), .unset] [(.ref a_READ), (.ref a_WRITE)])) _
    refine st4.trans ?_
    show Steps p.tables e below (T4.setTop (mkF m 78 #[.val (.int p0), .val (.int p1), .val (.int (2 : Int32)), .val (.int (0 : Int32)), .val (.ref b1), .val (.ref a_WRITE), .val (.ref a_READ), .unset] [(.int (1 : Int32))])) _
    refine XS.istore X4.here hx rfl (hb hby at_78) rfl (l' := #[.val (.int p0), .val (.int p1), .val (.int (2 : Int32)), .val (.int (0 : Int32)), .val (.ref b1), .val (.ref a_WRITE), .val (.ref a_READ), .val (.int (1 : Int32))]) rfl ?_
    show Steps p.tables e below (T4.setTop (mkF m 80 #[.val (.int p0), .val (.int p1), .val (.int (2 : Int32)), .val (.int (0 : Int32)), .val (.ref b1), .val (.ref a_WRITE), .val (.ref a_READ), .val (.int (1 : Int32))] [])) _
    refine XS.iload X4.here hx rfl (hb hby at_80) rfl ?_
    show Steps p.tables e below (T4.setTop (mkF m 82 #[.val (.int p0), .val (.int p1), .val (.int (2 : Int32)), .val (.int (0 : Int32)), .val (.ref b1), .val (.ref a_WRITE), .val (.ref a_READ), .val (.int (1 : Int32))] [(.int (1 : Int32))])) _
    refine XS.aload X4.here hx rfl (hb hby at_82) rfl rfl ?_
    show Steps p.tables e below (T4.setTop (mkF m 84 #[.val (.int p0), .val (.int p1), .val (.int (2 : Int32)), .val (.int (0 : Int32)), .val (.ref b1), .val (.ref a_WRITE), .val (.ref a_READ), .val (.int (1 : Int32))] [(.ref b1), (.int (1 : Int32))])) _
    refine XS.iloadN X4.here hx rfl (hb hby at_84) rfl ?_
    show Steps p.tables e below (T4.setTop (mkF m 85 #[.val (.int p0), .val (.int p1), .val (.int (2 : Int32)), .val (.int (0 : Int32)), .val (.ref b1), .val (.ref a_WRITE), .val (.ref a_READ), .val (.int (1 : Int32))] [(.int (2 : Int32)), (.ref b1), (.int (1 : Int32))])) _
    refine XS.iconst X4.here hx rfl (hb hby at_85) ?_
    show Steps p.tables e below (T4.setTop (mkF m 86 #[.val (.int p0), .val (.int p1), .val (.int (2 : Int32)), .val (.int (0 : Int32)), .val (.ref b1), .val (.ref a_WRITE), .val (.ref a_READ), .val (.int (1 : Int32))] [(.int (3 : Int32)), (.int (2 : Int32)), (.ref b1), (.int (1 : Int32))])) _
    refine XS.imul X4.here hx rfl (hb hby at_86) rfl ?_
    show Steps p.tables e below (T4.setTop (mkF m 87 #[.val (.int p0), .val (.int p1), .val (.int (2 : Int32)), .val (.int (0 : Int32)), .val (.ref b1), .val (.ref a_WRITE), .val (.ref a_READ), .val (.int (1 : Int32))] [(.int ((2 : Int32) * (3 : Int32))), (.ref b1), (.int (1 : Int32))])) _
    rw [(by decide : ((2 : Int32) * (3 : Int32)) = (6 : Int32))]
    show Steps p.tables e below (T4.setTop (mkF m 87 #[.val (.int p0), .val (.int p1), .val (.int (2 : Int32)), .val (.int (0 : Int32)), .val (.ref b1), .val (.ref a_WRITE), .val (.ref a_READ), .val (.int (1 : Int32))] [(.int (6 : Int32)), (.ref b1), (.int (1 : Int32))])) _
    refine XS.iloadN X4.here hx rfl (hb hby at_87) rfl ?_
    show Steps p.tables e below (T4.setTop (mkF m 88 #[.val (.int p0), .val (.int p1), .val (.int (2 : Int32)), .val (.int (0 : Int32)), .val (.ref b1), .val (.ref a_WRITE), .val (.ref a_READ), .val (.int (1 : Int32))] [(.int (0 : Int32)), (.int (6 : Int32)), (.ref b1), (.int (1 : Int32))])) _
    refine XS.iadd X4.here hx rfl (hb hby at_88) rfl ?_
    show Steps p.tables e below (T4.setTop (mkF m 89 #[.val (.int p0), .val (.int p1), .val (.int (2 : Int32)), .val (.int (0 : Int32)), .val (.ref b1), .val (.ref a_WRITE), .val (.ref a_READ), .val (.int (1 : Int32))] [(.int ((6 : Int32) + (0 : Int32))), (.ref b1), (.int (1 : Int32))])) _
    rw [(by decide : ((6 : Int32) + (0 : Int32)) = (6 : Int32))]
    show Steps p.tables e below (T4.setTop (mkF m 89 #[.val (.int p0), .val (.int p1), .val (.int (2 : Int32)), .val (.int (0 : Int32)), .val (.ref b1), .val (.ref a_WRITE), .val (.ref a_READ), .val (.int (1 : Int32))] [(.int (6 : Int32)), (.ref b1), (.int (1 : Int32))])) _
    refine X4.baloadBooleans hx (j := (6 : Int32)) (v := (.int (1 : Int32))) (by rw [e4]; exact r5.1) (State.isArrayOf_alike hZ.alike r5.2.1) r5.2.2 i5 y5 (g := (mkF m 89 #[.val (.int p0), .val (.int p1), .val (.int (2 : Int32)), .val (.int (0 : Int32)), .val (.ref b1), .val (.ref a_WRITE), .val (.ref a_READ), .val (.int (1 : Int32))] [(.int (6 : Int32)), (.ref b1), (.int (1 : Int32))])) rfl rfl (hb hby at_89) _ ?_
    show Steps p.tables e below (T4.setTop (mkF m 90 #[.val (.int p0), .val (.int p1), .val (.int (2 : Int32)), .val (.int (0 : Int32)), .val (.ref b1), .val (.ref a_WRITE), .val (.ref a_READ), .val (.int (1 : Int32))] [(.int (1 : Int32)), (.int (1 : Int32))])) _
    refine XS.icmpNo X4.here hx rfl (hb hby at_90) rfl (by decide) ?_
    show Steps p.tables e below (T4.setTop (mkF m 93 #[.val (.int p0), .val (.int p1), .val (.int (2 : Int32)), .val (.int (0 : Int32)), .val (.ref b1), .val (.ref a_WRITE), .val (.ref a_READ), .val (.int (1 : Int32))] [])) _
    refine XS.iconst X4.here hx rfl (hb hby at_93) ?_
    show Steps p.tables e below (T4.setTop (mkF m 94 #[.val (.int p0), .val (.int p1), .val (.int (2 : Int32)), .val (.int (0 : Int32)), .val (.ref b1), .val (.ref a_WRITE), .val (.ref a_READ), .val (.int (1 : Int32))] [(.int (1 : Int32))])) _
    refine XS.goto X4.here hx rfl (pc0 := 94) (pc' := 98) rfl (hb hby at_94) (by decide) (by decide) ?_
    show Steps p.tables e below (T4.setTop (mkF m 98 #[.val (.int p0), .val (.int p1), .val (.int (2 : Int32)), .val (.int (0 : Int32)), .val (.ref b1), .val (.ref a_WRITE), .val (.ref a_READ), .val (.int (1 : Int32))] [(.int (1 : Int32))])) _
    exact retN X4 hx (t := .boolean) Bd.returns (by simp) (hb hby at_98) hr
  · exact ⟨rfl, N4⟩
set_option maxRecDepth 65536 in
set_option maxHeartbeats 40000000 in
theorem rm2_7 (l : Launch) (Z : State) (a0 : Array Value) (hw : ∀ d ∈ tables_1, d.before a0 Z = true) (ws : List Jvm.Cond) (p0 p1 : Int32) (a_READ a_WRITE a_UPGRADE : Addr) (h0 : Heap) (n0 : Nat) (Z0 : n0 ≤ h0.size) (FF : Facts Z h0 a_READ a_WRITE a_UPGRADE) :
    MetFree l (⟨"com/example/gridlok/gridlok/model/LockMode", "covers", "(Lcom/example/gridlok/gridlok/model/LockMode;)Z"⟩ : MethodName) (head1 (Jvm.Cond.code (⟨"com/example/gridlok/gridlok/model/LockMode", "covers", "(Lcom/example/gridlok/gridlok/model/LockMode;)Z"⟩ : MethodName) prog_9_method_5_code 2 (some .boolean) :: ws) ({ frames := 0, cells := 0, slots := 0, locals := 0 } : Room)) (fun a U => a = #[(.ref a_WRITE), (.ref a_UPGRADE)] ∧ Z.Warmed39 U.vm ∧ U.heap = h0) (fun _ _ _ _ _ => True) (fun _ U o U' => ∃ v L, o = .returned v ∧ own_Q (.int (1 : Int32)) h0 n0 v U'.heap L ∧ FrameEnd U o U' L ({ frames := 0, cells := 0, slots := 0, locals := 0 } : Room).cells ({ frames := 0, cells := 0, slots := 0, locals := 0 } : Room).slots) := by
  refine MetFree.of_bodySF (plainFor_of_name pn_2) hisR ?_
  intro p e s m args below meth c s₁ Bd hml0 hP hK
  obtain ⟨rfl, hZ, hh⟩ := hP
  have hx := Bd.exec
  have hby := Bd.bytes
  have hml : c.maxLocals = 2 := hml0
  have hown : s.vm.findClass "com/example/gridlok/gridlok/model/LockMode" = some m.cls := findClass_of_methodNamed Bd.named
  have X0 : Stand p l e ({ frames := 0, cells := 0, slots := 0, locals := 0 } : Room) s m #[(.ref a_WRITE), (.ref a_UPGRADE)] below meth c s₁ [] 0 0 := Stand.of_body Bd
  have e0 : s₁.heap = h0 := by rw [← hh, Bd.state]; rfl
  have N0 := Fr.nil n0
  have pre0 : ∀ t, Steps p.tables e below (s₁.setTop (mkF m 0 #[.val (.ref a_WRITE), .val (.ref a_UPGRADE)] [])) t → Steps p.tables e below (s₁.setTop (entryFrame m #[(.ref a_WRITE), (.ref a_UPGRADE)] 2)) t := fun t k => castTop (ef_2 m a_WRITE a_UPGRADE) k
  obtain ⟨T1, X1, e1, st1⟩ := getS2 X0 hx hZ hown (host := "") (Or.inl (hw _ (List.mem_of_getElem? (i := 14) rfl))) Via.refl e0 (fx_S_WRITE FF) (g := (mkF m 1 #[.val (.ref a_WRITE), .val (.ref a_UPGRADE)] [(.ref a_WRITE)])) rfl (hb hby d2_1)
  obtain ⟨fs, hr, hrun, hended, hW, hsame⟩ := X1.leave (v := some (.int (1 : Int32))) (fun h => by rw [Bd.returns] at h; cases h)
  refine ⟨_, _, pre0 _ ?_, hrun, hended, _, _, rfl, ?_, ⟨_, rfl⟩, hW, hsame.mono (by decide) (by decide)⟩
  · show Steps p.tables e below (s₁.setTop (mkF m 0 #[.val (.ref a_WRITE), .val (.ref a_UPGRADE)] [])) _
    refine XS.aloadN X0.here hx rfl (hb hby d2_0) rfl rfl ?_
    show Steps p.tables e below (s₁.setTop (mkF m 1 #[.val (.ref a_WRITE), .val (.ref a_UPGRADE)] [(.ref a_WRITE)])) _
    refine st1 _ ?_
    show Steps p.tables e below (T1.setTop (mkF m 4 #[.val (.ref a_WRITE), .val (.ref a_UPGRADE)] [(.ref a_WRITE), (.ref a_WRITE)])) _
    refine Jvm.RoadKit.acmp (g := (mkF m 4 #[.val (.ref a_WRITE), .val (.ref a_UPGRADE)] [(.ref a_WRITE), (.ref a_WRITE)])) X1 hx rfl rfl rfl (pc0 := 4) (pc' := 12) (same := true) rfl (hb hby d2_4) rfl (decide_eq_true rfl) (by decide) (by decide) ?_
    show Steps p.tables e below (T1.setTop (mkF m 12 #[.val (.ref a_WRITE), .val (.ref a_UPGRADE)] [])) _
    refine XS.iconst X1.here hx rfl (hb hby d2_12) ?_
    show Steps p.tables e below (T1.setTop (mkF m 13 #[.val (.ref a_WRITE), .val (.ref a_UPGRADE)] [(.int (1 : Int32))])) _
    refine XS.goto X1.here hx rfl (pc0 := 13) (pc' := 17) rfl (hb hby d2_13) (by decide) (by decide) ?_
    show Steps p.tables e below (T1.setTop (mkF m 17 #[.val (.ref a_WRITE), .val (.ref a_UPGRADE)] [(.int (1 : Int32))])) _
    exact retN X1 hx (t := .boolean) Bd.returns (by simp) (hb hby d2_17) hr
  · show own_Q _ _ _ _ T1.heap _
    exact ⟨rfl, N0, e1⟩
set_option maxRecDepth 65536 in
set_option maxHeartbeats 40000000 in
theorem rm0_7 (l : Launch) (Z : State) (a0 : Array Value) (hw : ∀ d ∈ tables_1, d.before a0 Z = true) (ws : List Jvm.Cond) (p0 p1 : Int32) (a_READ a_WRITE a_UPGRADE : Addr) (h0 : Heap) (n0 : Nat) (Z0 : n0 ≤ h0.size) (FF : Facts Z h0 a_READ a_WRITE a_UPGRADE) (hk0 : ((p0 &&& (2147483647 : Int32)) % (3 : Int32)) = (2 : Int32)) (hk1 : ((p1 &&& (2147483647 : Int32)) % (3 : Int32)) = (1 : Int32)) :
    MetFree l x (head1 (Jvm.Cond.code x code maxLocals ret :: ws) room_1) (fun a U => a = #[(.int p0), (.int p1)] ∧ Z.Warmed39 U.vm ∧ U.heap = h0) (fun _ _ _ _ _ => True) (fun _ U o U' => ∃ v L, o = .returned v ∧ (v = some (.int (1 : Int32)) ∧ Fr n0 L) ∧ FrameEnd U o U' L room_1.cells room_1.slots) := by
  refine MetFree.of_bodySF (plainFor_of_name pn_0) hisR ?_
  intro p e s m args below meth c s₁ Bd hml0 hP hK
  obtain ⟨rfl, hZ, hh⟩ := hP
  have hx := Bd.exec
  have hby := Bd.bytes
  have hml : c.maxLocals = 8 := hml0
  have hown : s.vm.findClass "com/example/gridlok/gridlok/model/LockModeCoversPinLaw" = some m.cls := findClass_of_methodNamed Bd.named
  have X0 : Stand p l e room_1 s m #[(.int p0), (.int p1)] below meth c s₁ [] 0 0 := Stand.of_body Bd
  have e0 : s₁.heap = h0 := by rw [← hh, Bd.state]; rfl
  have N0 := Fr.nil n0
  have pre0 : ∀ t, Steps p.tables e below (s₁.setTop (mkF m 0 #[.val (.int p0), .val (.int p1), .unset, .unset, .unset, .unset, .unset, .unset] [])) t → Steps p.tables e below (s₁.setTop (entryFrame m #[(.int p0), (.int p1)] maxLocals)) t := fun t k => castTop (ef_0 m p0 p1) k
  obtain ⟨T1, h1, b1, k1, lc1, X1, e1, s_b1, z1, N1, FF1, V1, st1⟩ := seg_0 (l := l) (Z := Z) hw a_READ a_WRITE a_UPGRADE p0 p1 (2 : Int32) (1 : Int32) X0 hx hZ hby hml hown e0 Z0 N0 FF
  obtain ⟨_, _, ⟨T2, L2, k2, n2⟩, -, X2, ⟨Lc2, hQ2, l2, y2, z2⟩, st2⟩ := Jvm.LawKit.callS X1 hx (y := (⟨"com/example/gridlok/gridlok/model/LockModeCoversPinLaw", "mode", "(I)Lcom/example/gridlok/gridlok/model/LockMode;"⟩ : MethodName)) hown (mvT hZ (hw _ (List.mem_of_getElem? (i := 2) rfl))) (mvT hZ (hw _ (List.mem_of_getElem? (i := 3) rfl))) (mvT hZ (hw _ (List.mem_of_getElem? (i := 4) rfl))) (mvT hZ (hw _ (List.mem_of_getElem? (i := 5) rfl))) (by decide) (backOf (W := 0) (rm1_2 l Z a0 hw [] p0 p1 a_READ a_WRITE a_UPGRADE h1 n0 (Nat.le_trans Z0 z1) FF1) hZ (hw _ (List.mem_of_getElem? (i := 5) rfl)) (hw _ (List.mem_of_getElem? (i := 4) rfl)) (by decide) (by decide)) (g := (mkF m 60 #[.val (.int p0), .val (.int p1), .val (.int (2 : Int32)), .val (.int (1 : Int32)), .val (.ref b1), .unset, .unset, .unset] [(.int (2 : Int32))])) rfl (by rw [hml]; rfl) (argsL := [(.int (2 : Int32))]) (rest := []) (lenOf pd_0 rfl) rfl (by show 2 * 0 + _ ≤ _; exact Nat.le_of_eq rfl) (hb hby at_60) (fun _ _ => ⟨rfl, e1, (by decide : 1 + 0 ≤ _), (by decide : 9 + 0 ≤ _)⟩)
  dsimp only [Pt.U, Pt.locs, Pt.cells, Pt.slots] at X2 l2 y2 z2 st2 hQ2
  subst l2 y2 z2
  obtain ⟨rfl, N2q, e2⟩ := hQ2
  have N2 := Fr.app N1 N2q
  obtain ⟨_, _, ⟨T3, L3, k3, n3⟩, -, X3, ⟨Lc3, hQ3, l3, y3, z3⟩, st3⟩ := Jvm.LawKit.callS X2 hx (y := (⟨"com/example/gridlok/gridlok/model/LockModeCoversPinLaw", "mode", "(I)Lcom/example/gridlok/gridlok/model/LockMode;"⟩ : MethodName)) hown (mvT hZ (hw _ (List.mem_of_getElem? (i := 2) rfl))) (mvT hZ (hw _ (List.mem_of_getElem? (i := 3) rfl))) (mvT hZ (hw _ (List.mem_of_getElem? (i := 4) rfl))) (mvT hZ (hw _ (List.mem_of_getElem? (i := 5) rfl))) (by decide) (backOf (W := 0) (rm1_1 l Z a0 hw [] p0 p1 a_READ a_WRITE a_UPGRADE h1 n0 (Nat.le_trans Z0 z1) FF1) hZ (hw _ (List.mem_of_getElem? (i := 5) rfl)) (hw _ (List.mem_of_getElem? (i := 4) rfl)) (by decide) (by decide)) (g := (mkF m 66 #[.val (.int p0), .val (.int p1), .val (.int (2 : Int32)), .val (.int (1 : Int32)), .val (.ref b1), .val (.ref a_WRITE), .unset, .unset] [(.int (1 : Int32))])) rfl (by rw [hml]; rfl) (argsL := [(.int (1 : Int32))]) (rest := []) (lenOf pd_0 rfl) rfl (by show 2 * 0 + _ ≤ _; exact Nat.le_of_eq rfl) (hb hby at_66) (fun _ _ => ⟨rfl, e2, (by decide : 1 + 0 ≤ _), (by decide : 9 + 0 ≤ _)⟩)
  dsimp only [Pt.U, Pt.locs, Pt.cells, Pt.slots] at X3 l3 y3 z3 st3 hQ3
  subst l3 y3 z3
  obtain ⟨rfl, N3q, e3⟩ := hQ3
  have N3 := Fr.app N2 N3q
  obtain ⟨cq4, kq4, q4a, q4b, q4c⟩ := isOf hZ e3 (fx_E_WRITE FF1)
  obtain ⟨_, _, ⟨T4, L4, k4, n4⟩, -, X4, ⟨Lc4, hQ4, l4, y4, z4⟩, st4⟩ := X3.virtualBack hx (y := (⟨"com/example/gridlok/gridlok/model/LockMode", "covers", "(Lcom/example/gridlok/gridlok/model/LockMode;)Z"⟩ : MethodName)) (z := (⟨"com/example/gridlok/gridlok/model/LockMode", "covers", "(Lcom/example/gridlok/gridlok/model/LockMode;)Z"⟩ : MethodName)) hown (mvT hZ (hw _ (List.mem_of_getElem? (i := 9) rfl))) (mvT hZ (hw _ (List.mem_of_getElem? (i := 10) rfl))) (notFace_of_selects (args := #[]) (mvT hZ (hw _ (List.mem_of_getElem? (i := 12) rfl)))) (mvT hZ (hw _ (List.mem_of_getElem? (i := 12) rfl))) (mvT hZ (hw _ (List.mem_of_getElem? (i := 11) rfl))) (by decide) (backOf (W := 0) (rm2_7 l Z a0 hw [] p0 p1 a_READ a_WRITE a_UPGRADE h1 n0 (Nat.le_trans Z0 z1) FF1) hZ (hw _ (List.mem_of_getElem? (i := 13) rfl)) (hw _ (List.mem_of_getElem? (i := 7) rfl)) (by decide) (by decide)) q4a q4c (g := (mkF m 75 #[.val (.int p0), .val (.int p1), .val (.int (2 : Int32)), .val (.int (1 : Int32)), .val (.ref b1), .val (.ref a_WRITE), .val (.ref a_UPGRADE), .unset] [(.ref a_UPGRADE), (.ref a_WRITE)])) rfl (by rw [hml]; rfl) (Steps.refl _) (argsL := [(.ref a_UPGRADE)]) (rest := []) (lenOf pd_1 rfl) rfl (by show 2 * 0 + _ ≤ _; exact Nat.le_of_eq rfl) (hb hby at_75) (fun _ _ => ⟨rfl, e3, (by decide : 1 + 0 ≤ _), (by decide : 9 + 0 ≤ _)⟩)
  dsimp only [Pt.U, Pt.locs, Pt.cells, Pt.slots] at X4 l4 y4 z4 st4 hQ4
  subst l4 y4 z4
  obtain ⟨rfl, N4q, e4⟩ := hQ4
  have N4 := Fr.app N3 N4q
  obtain ⟨c5, r5, -, S5, -, H5, -⟩ := V1
  have i5 : ¬ ((7 : Int32) < 0 ∨ c5.slots.size ≤ ((7 : Int32)).toNatClampNeg) := inb_of S5 ⟨by decide, by decide⟩
  have y5 : c5.slots[((7 : Int32)).toNatClampNeg]? = some (.int (1 : Int32)) := H5 7 (by rw [S5]; decide)
  obtain ⟨fs, hr, hrun, hended, hW, hsame⟩ := X4.leave (v := some (.int (1 : Int32))) (fun h => by rw [Bd.returns] at h; cases h)
  refine ⟨_, _, pre0 _ ?_, hrun, hended, _, _, rfl, ?_, ⟨_, rfl⟩, hW, hsame.mono (by decide) (by decide)⟩
  · show Steps p.tables e below (s₁.setTop (mkF m 0 #[.val (.int p0), .val (.int p1), .unset, .unset, .unset, .unset, .unset, .unset] [])) _
    refine XS.iloadN X0.here hx rfl (hb hby at_0) rfl ?_
    show Steps p.tables e below (s₁.setTop (mkF m 1 #[.val (.int p0), .val (.int p1), .unset, .unset, .unset, .unset, .unset, .unset] [(.int p0)])) _
    refine X0.ldcInt hx hown (mvT hZ (hw _ (List.mem_of_getElem? (i := 0) rfl))) (g := (mkF m 1 #[.val (.int p0), .val (.int p1), .unset, .unset, .unset, .unset, .unset, .unset] [(.int p0)])) rfl (hb hby at_1) _ ?_
    show Steps p.tables e below (s₁.setTop (mkF m 3 #[.val (.int p0), .val (.int p1), .unset, .unset, .unset, .unset, .unset, .unset] [(.int (2147483647 : Int32)), (.int p0)])) _
    refine XS.iand X0.here hx rfl (hb hby at_3) rfl ?_
    show Steps p.tables e below (s₁.setTop (mkF m 4 #[.val (.int p0), .val (.int p1), .unset, .unset, .unset, .unset, .unset, .unset] [(.int (p0 &&& (2147483647 : Int32)))])) _
    refine XS.iconst X0.here hx rfl (hb hby at_4) ?_
    show Steps p.tables e below (s₁.setTop (mkF m 5 #[.val (.int p0), .val (.int p1), .unset, .unset, .unset, .unset, .unset, .unset] [(.int (3 : Int32)), (.int (p0 &&& (2147483647 : Int32)))])) _
    refine iremM X0 hx rfl (hb hby at_5) rfl (by decide) ?_
    show Steps p.tables e below (s₁.setTop (mkF m 6 #[.val (.int p0), .val (.int p1), .unset, .unset, .unset, .unset, .unset, .unset] [(.int ((p0 &&& (2147483647 : Int32)) % (3 : Int32)))])) _
    rw [hk0]
    show Steps p.tables e below (s₁.setTop (mkF m 6 #[.val (.int p0), .val (.int p1), .unset, .unset, .unset, .unset, .unset, .unset] [(.int (2 : Int32))])) _
    refine XS.istoreN X0.here hx rfl (hb hby at_6) rfl (l' := #[.val (.int p0), .val (.int p1), .val (.int (2 : Int32)), .unset, .unset, .unset, .unset, .unset]) rfl ?_
    show Steps p.tables e below (s₁.setTop (mkF m 7 #[.val (.int p0), .val (.int p1), .val (.int (2 : Int32)), .unset, .unset, .unset, .unset, .unset] [])) _
    refine XS.iloadN X0.here hx rfl (hb hby at_7) rfl ?_
    show Steps p.tables e below (s₁.setTop (mkF m 8 #[.val (.int p0), .val (.int p1), .val (.int (2 : Int32)), .unset, .unset, .unset, .unset, .unset] [(.int p1)])) _
    refine X0.ldcInt hx hown (mvT hZ (hw _ (List.mem_of_getElem? (i := 0) rfl))) (g := (mkF m 8 #[.val (.int p0), .val (.int p1), .val (.int (2 : Int32)), .unset, .unset, .unset, .unset, .unset] [(.int p1)])) rfl (hb hby at_8) _ ?_
    show Steps p.tables e below (s₁.setTop (mkF m 10 #[.val (.int p0), .val (.int p1), .val (.int (2 : Int32)), .unset, .unset, .unset, .unset, .unset] [(.int (2147483647 : Int32)), (.int p1)])) _
    refine XS.iand X0.here hx rfl (hb hby at_10) rfl ?_
    show Steps p.tables e below (s₁.setTop (mkF m 11 #[.val (.int p0), .val (.int p1), .val (.int (2 : Int32)), .unset, .unset, .unset, .unset, .unset] [(.int (p1 &&& (2147483647 : Int32)))])) _
    refine XS.iconst X0.here hx rfl (hb hby at_11) ?_
    show Steps p.tables e below (s₁.setTop (mkF m 12 #[.val (.int p0), .val (.int p1), .val (.int (2 : Int32)), .unset, .unset, .unset, .unset, .unset] [(.int (3 : Int32)), (.int (p1 &&& (2147483647 : Int32)))])) _
    refine iremM X0 hx rfl (hb hby at_12) rfl (by decide) ?_
    show Steps p.tables e below (s₁.setTop (mkF m 13 #[.val (.int p0), .val (.int p1), .val (.int (2 : Int32)), .unset, .unset, .unset, .unset, .unset] [(.int ((p1 &&& (2147483647 : Int32)) % (3 : Int32)))])) _
    rw [hk1]
    show Steps p.tables e below (s₁.setTop (mkF m 13 #[.val (.int p0), .val (.int p1), .val (.int (2 : Int32)), .unset, .unset, .unset, .unset, .unset] [(.int (1 : Int32))])) _
    refine XS.istoreN X0.here hx rfl (hb hby at_13) rfl (l' := #[.val (.int p0), .val (.int p1), .val (.int (2 : Int32)), .val (.int (1 : Int32)), .unset, .unset, .unset, .unset]) rfl ?_
    show Steps p.tables e below (s₁.setTop (mkF m 14 #[.val (.int p0), .val (.int p1), .val (.int (2 : Int32)), .val (.int (1 : Int32)), .unset, .unset, .unset, .unset] [])) _
    refine st1 _ ?_
    show Steps p.tables e below (T1.setTop (mkF m 59 #[.val (.int p0), .val (.int p1), .val (.int (2 : Int32)), .val (.int (1 : Int32)), .val (.ref b1), .unset, .unset, .unset] [])) _
    refine XS.iloadN X1.here hx rfl (hb hby at_59) rfl ?_
    show Steps p.tables e below (T1.setTop (mkF m 60 #[.val (.int p0), .val (.int p1), .val (.int (2 : Int32)), .val (.int (1 : Int32)), .val (.ref b1), .unset, .unset, .unset] [(.int (2 : Int32))])) _
    refine st2 _ ?_
    show Steps p.tables e below (T2.setTop (mkF m 63 #[.val (.int p0), .val (.int p1), .val (.int (2 : Int32)), .val (.int (1 : Int32)), .val (.ref b1), .unset, .unset, .unset] [(.ref a_WRITE)])) _
    refine XS.astore X2.here hx rfl (hb hby at_63) rfl rfl (l' := #[.val (.int p0), .val (.int p1), .val (.int (2 : Int32)), .val (.int (1 : Int32)), .val (.ref b1), .val (.ref a_WRITE), .unset, .unset]) rfl ?_
    show Steps p.tables e below (T2.setTop (mkF m 65 #[.val (.int p0), .val (.int p1), .val (.int (2 : Int32)), .val (.int (1 : Int32)), .val (.ref b1), .val (.ref a_WRITE), .unset, .unset] [])) _
    refine XS.iloadN X2.here hx rfl (hb hby at_65) rfl ?_
    show Steps p.tables e below (T2.setTop (mkF m 66 #[.val (.int p0), .val (.int p1), .val (.int (2 : Int32)), .val (.int (1 : Int32)), .val (.ref b1), .val (.ref a_WRITE), .unset, .unset] [(.int (1 : Int32))])) _
    refine st3 _ ?_
    show Steps p.tables e below (T3.setTop (mkF m 69 #[.val (.int p0), .val (.int p1), .val (.int (2 : Int32)), .val (.int (1 : Int32)), .val (.ref b1), .val (.ref a_WRITE), .unset, .unset] [(.ref a_UPGRADE)])) _
    refine XS.astore X3.here hx rfl (hb hby at_69) rfl rfl (l' := #[.val (.int p0), .val (.int p1), .val (.int (2 : Int32)), .val (.int (1 : Int32)), .val (.ref b1), .val (.ref a_WRITE), .val (.ref a_UPGRADE), .unset]) rfl ?_
    show Steps p.tables e below (T3.setTop (mkF m 71 #[.val (.int p0), .val (.int p1), .val (.int (2 : Int32)), .val (.int (1 : Int32)), .val (.ref b1), .val (.ref a_WRITE), .val (.ref a_UPGRADE), .unset] [])) _
    refine XS.aload X3.here hx rfl (hb hby at_71) rfl rfl ?_
    show Steps p.tables e below (T3.setTop (mkF m 73 #[.val (.int p0), .val (.int p1), .val (.int (2 : Int32)), .val (.int (1 : Int32)), .val (.ref b1), .val (.ref a_WRITE), .val (.ref a_UPGRADE), .unset] [(.ref a_WRITE)])) _
    refine XS.aload X3.here hx rfl (hb hby at_73) rfl rfl ?_
    show Steps p.tables e below (T3.setTop (mkF m 75 #[.val (.int p0), .val (.int p1), .val (.int (2 : Int32)), .val (.int (1 : Int32)), .val (.ref b1), .val (.ref a_WRITE), .val (.ref a_UPGRADE), .unset] [(.ref a_UPGRADE), (.ref a_WRITE)])) _
    refine st4.trans ?_
    show Steps p.tables e below (T4.setTop (mkF m 78 #[.val (.int p0), .val (.int p1), .val (.int (2 : Int32)), .val (.int (1 : Int32)), .val (.ref b1), .val (.ref a_WRITE), .val (.ref a_UPGRADE), .unset] [(.int (1 : Int32))])) _
    refine XS.istore X4.here hx rfl (hb hby at_78) rfl (l' := #[.val (.int p0), .val (.int p1), .val (.int (2 : Int32)), .val (.int (1 : Int32)), .val (.ref b1), .val (.ref a_WRITE), .val (.ref a_UPGRADE), .val (.int (1 : Int32))]) rfl ?_
    show Steps p.tables e below (T4.setTop (mkF m 80 #[.val (.int p0), .val (.int p1), .val (.int (2 : Int32)), .val (.int (1 : Int32)), .val (.ref b1), .val (.ref a_WRITE), .val (.ref a_UPGRADE), .val (.int (1 : Int32))] [])) _
    refine XS.iload X4.here hx rfl (hb hby at_80) rfl ?_
    show Steps p.tables e below (T4.setTop (mkF m 82 #[.val (.int p0), .val (.int p1), .val (.int (2 : Int32)), .val (.int (1 : Int32)), .val (.ref b1), .val (.ref a_WRITE), .val (.ref a_UPGRADE), .val (.int (1 : Int32))] [(.int (1 : Int32))])) _
    refine XS.aload X4.here hx rfl (hb hby at_82) rfl rfl ?_
    show Steps p.tables e below (T4.setTop (mkF m 84 #[.val (.int p0), .val (.int p1), .val (.int (2 : Int32)), .val (.int (1 : Int32)), .val (.ref b1), .val (.ref a_WRITE), .val (.ref a_UPGRADE), .val (.int (1 : Int32))] [(.ref b1), (.int (1 : Int32))])) _
    refine XS.iloadN X4.here hx rfl (hb hby at_84) rfl ?_
    show Steps p.tables e below (T4.setTop (mkF m 85 #[.val (.int p0), .val (.int p1), .val (.int (2 : Int32)), .val (.int (1 : Int32)), .val (.ref b1), .val (.ref a_WRITE), .val (.ref a_UPGRADE), .val (.int (1 : Int32))] [(.int (2 : Int32)), (.ref b1), (.int (1 : Int32))])) _
    refine XS.iconst X4.here hx rfl (hb hby at_85) ?_
    show Steps p.tables e below (T4.setTop (mkF m 86 #[.val (.int p0), .val (.int p1), .val (.int (2 : Int32)), .val (.int (1 : Int32)), .val (.ref b1), .val (.ref a_WRITE), .val (.ref a_UPGRADE), .val (.int (1 : Int32))] [(.int (3 : Int32)), (.int (2 : Int32)), (.ref b1), (.int (1 : Int32))])) _
    refine XS.imul X4.here hx rfl (hb hby at_86) rfl ?_
    show Steps p.tables e below (T4.setTop (mkF m 87 #[.val (.int p0), .val (.int p1), .val (.int (2 : Int32)), .val (.int (1 : Int32)), .val (.ref b1), .val (.ref a_WRITE), .val (.ref a_UPGRADE), .val (.int (1 : Int32))] [(.int ((2 : Int32) * (3 : Int32))), (.ref b1), (.int (1 : Int32))])) _
    rw [(by decide : ((2 : Int32) * (3 : Int32)) = (6 : Int32))]
    show Steps p.tables e below (T4.setTop (mkF m 87 #[.val (.int p0), .val (.int p1), .val (.int (2 : Int32)), .val (.int (1 : Int32)), .val (.ref b1), .val (.ref a_WRITE), .val (.ref a_UPGRADE), .val (.int (1 : Int32))] [(.int (6 : Int32)), (.ref b1), (.int (1 : Int32))])) _
    refine XS.iloadN X4.here hx rfl (hb hby at_87) rfl ?_
    show Steps p.tables e below (T4.setTop (mkF m 88 #[.val (.int p0), .val (.int p1), .val (.int (2 : Int32)), .val (.int (1 : Int32)), .val (.ref b1), .val (.ref a_WRITE), .val (.ref a_UPGRADE), .val (.int (1 : Int32))] [(.int (1 : Int32)), (.int (6 : Int32)), (.ref b1), (.int (1 : Int32))])) _
    refine XS.iadd X4.here hx rfl (hb hby at_88) rfl ?_
    show Steps p.tables e below (T4.setTop (mkF m 89 #[.val (.int p0), .val (.int p1), .val (.int (2 : Int32)), .val (.int (1 : Int32)), .val (.ref b1), .val (.ref a_WRITE), .val (.ref a_UPGRADE), .val (.int (1 : Int32))] [(.int ((6 : Int32) + (1 : Int32))), (.ref b1), (.int (1 : Int32))])) _
    rw [(by decide : ((6 : Int32) + (1 : Int32)) = (7 : Int32))]
    show Steps p.tables e below (T4.setTop (mkF m 89 #[.val (.int p0), .val (.int p1), .val (.int (2 : Int32)), .val (.int (1 : Int32)), .val (.ref b1), .val (.ref a_WRITE), .val (.ref a_UPGRADE), .val (.int (1 : Int32))] [(.int (7 : Int32)), (.ref b1), (.int (1 : Int32))])) _
    refine X4.baloadBooleans hx (j := (7 : Int32)) (v := (.int (1 : Int32))) (by rw [e4]; exact r5.1) (State.isArrayOf_alike hZ.alike r5.2.1) r5.2.2 i5 y5 (g := (mkF m 89 #[.val (.int p0), .val (.int p1), .val (.int (2 : Int32)), .val (.int (1 : Int32)), .val (.ref b1), .val (.ref a_WRITE), .val (.ref a_UPGRADE), .val (.int (1 : Int32))] [(.int (7 : Int32)), (.ref b1), (.int (1 : Int32))])) rfl rfl (hb hby at_89) _ ?_
    show Steps p.tables e below (T4.setTop (mkF m 90 #[.val (.int p0), .val (.int p1), .val (.int (2 : Int32)), .val (.int (1 : Int32)), .val (.ref b1), .val (.ref a_WRITE), .val (.ref a_UPGRADE), .val (.int (1 : Int32))] [(.int (1 : Int32)), (.int (1 : Int32))])) _
    refine XS.icmpNo X4.here hx rfl (hb hby at_90) rfl (by decide) ?_
    show Steps p.tables e below (T4.setTop (mkF m 93 #[.val (.int p0), .val (.int p1), .val (.int (2 : Int32)), .val (.int (1 : Int32)), .val (.ref b1), .val (.ref a_WRITE), .val (.ref a_UPGRADE), .val (.int (1 : Int32))] [])) _
    refine XS.iconst X4.here hx rfl (hb hby at_93) ?_
    show Steps p.tables e below (T4.setTop (mkF m 94 #[.val (.int p0), .val (.int p1), .val (.int (2 : Int32)), .val (.int (1 : Int32)), .val (.ref b1), .val (.ref a_WRITE), .val (.ref a_UPGRADE), .val (.int (1 : Int32))] [(.int (1 : Int32))])) _
    refine XS.goto X4.here hx rfl (pc0 := 94) (pc' := 98) rfl (hb hby at_94) (by decide) (by decide) ?_
    show Steps p.tables e below (T4.setTop (mkF m 98 #[.val (.int p0), .val (.int p1), .val (.int (2 : Int32)), .val (.int (1 : Int32)), .val (.ref b1), .val (.ref a_WRITE), .val (.ref a_UPGRADE), .val (.int (1 : Int32))] [(.int (1 : Int32))])) _
    exact retN X4 hx (t := .boolean) Bd.returns (by simp) (hb hby at_98) hr
  · exact ⟨rfl, N4⟩
set_option maxRecDepth 65536 in
set_option maxHeartbeats 40000000 in
theorem rm2_8 (l : Launch) (Z : State) (a0 : Array Value) (hw : ∀ d ∈ tables_1, d.before a0 Z = true) (ws : List Jvm.Cond) (p0 p1 : Int32) (a_READ a_WRITE a_UPGRADE : Addr) (h0 : Heap) (n0 : Nat) (Z0 : n0 ≤ h0.size) (FF : Facts Z h0 a_READ a_WRITE a_UPGRADE) :
    MetFree l (⟨"com/example/gridlok/gridlok/model/LockMode", "covers", "(Lcom/example/gridlok/gridlok/model/LockMode;)Z"⟩ : MethodName) (head1 (Jvm.Cond.code (⟨"com/example/gridlok/gridlok/model/LockMode", "covers", "(Lcom/example/gridlok/gridlok/model/LockMode;)Z"⟩ : MethodName) prog_9_method_5_code 2 (some .boolean) :: ws) ({ frames := 0, cells := 0, slots := 0, locals := 0 } : Room)) (fun a U => a = #[(.ref a_WRITE), (.ref a_WRITE)] ∧ Z.Warmed39 U.vm ∧ U.heap = h0) (fun _ _ _ _ _ => True) (fun _ U o U' => ∃ v L, o = .returned v ∧ own_Q (.int (1 : Int32)) h0 n0 v U'.heap L ∧ FrameEnd U o U' L ({ frames := 0, cells := 0, slots := 0, locals := 0 } : Room).cells ({ frames := 0, cells := 0, slots := 0, locals := 0 } : Room).slots) := by
  refine MetFree.of_bodySF (plainFor_of_name pn_2) hisR ?_
  intro p e s m args below meth c s₁ Bd hml0 hP hK
  obtain ⟨rfl, hZ, hh⟩ := hP
  have hx := Bd.exec
  have hby := Bd.bytes
  have hml : c.maxLocals = 2 := hml0
  have hown : s.vm.findClass "com/example/gridlok/gridlok/model/LockMode" = some m.cls := findClass_of_methodNamed Bd.named
  have X0 : Stand p l e ({ frames := 0, cells := 0, slots := 0, locals := 0 } : Room) s m #[(.ref a_WRITE), (.ref a_WRITE)] below meth c s₁ [] 0 0 := Stand.of_body Bd
  have e0 : s₁.heap = h0 := by rw [← hh, Bd.state]; rfl
  have N0 := Fr.nil n0
  have pre0 : ∀ t, Steps p.tables e below (s₁.setTop (mkF m 0 #[.val (.ref a_WRITE), .val (.ref a_WRITE)] [])) t → Steps p.tables e below (s₁.setTop (entryFrame m #[(.ref a_WRITE), (.ref a_WRITE)] 2)) t := fun t k => castTop (ef_2 m a_WRITE a_WRITE) k
  obtain ⟨T1, X1, e1, st1⟩ := getS2 X0 hx hZ hown (host := "") (Or.inl (hw _ (List.mem_of_getElem? (i := 14) rfl))) Via.refl e0 (fx_S_WRITE FF) (g := (mkF m 1 #[.val (.ref a_WRITE), .val (.ref a_WRITE)] [(.ref a_WRITE)])) rfl (hb hby d2_1)
  obtain ⟨fs, hr, hrun, hended, hW, hsame⟩ := X1.leave (v := some (.int (1 : Int32))) (fun h => by rw [Bd.returns] at h; cases h)
  refine ⟨_, _, pre0 _ ?_, hrun, hended, _, _, rfl, ?_, ⟨_, rfl⟩, hW, hsame.mono (by decide) (by decide)⟩
  · show Steps p.tables e below (s₁.setTop (mkF m 0 #[.val (.ref a_WRITE), .val (.ref a_WRITE)] [])) _
    refine XS.aloadN X0.here hx rfl (hb hby d2_0) rfl rfl ?_
    show Steps p.tables e below (s₁.setTop (mkF m 1 #[.val (.ref a_WRITE), .val (.ref a_WRITE)] [(.ref a_WRITE)])) _
    refine st1 _ ?_
    show Steps p.tables e below (T1.setTop (mkF m 4 #[.val (.ref a_WRITE), .val (.ref a_WRITE)] [(.ref a_WRITE), (.ref a_WRITE)])) _
    refine Jvm.RoadKit.acmp (g := (mkF m 4 #[.val (.ref a_WRITE), .val (.ref a_WRITE)] [(.ref a_WRITE), (.ref a_WRITE)])) X1 hx rfl rfl rfl (pc0 := 4) (pc' := 12) (same := true) rfl (hb hby d2_4) rfl (decide_eq_true rfl) (by decide) (by decide) ?_
    show Steps p.tables e below (T1.setTop (mkF m 12 #[.val (.ref a_WRITE), .val (.ref a_WRITE)] [])) _
    refine XS.iconst X1.here hx rfl (hb hby d2_12) ?_
    show Steps p.tables e below (T1.setTop (mkF m 13 #[.val (.ref a_WRITE), .val (.ref a_WRITE)] [(.int (1 : Int32))])) _
    refine XS.goto X1.here hx rfl (pc0 := 13) (pc' := 17) rfl (hb hby d2_13) (by decide) (by decide) ?_
    show Steps p.tables e below (T1.setTop (mkF m 17 #[.val (.ref a_WRITE), .val (.ref a_WRITE)] [(.int (1 : Int32))])) _
    exact retN X1 hx (t := .boolean) Bd.returns (by simp) (hb hby d2_17) hr
  · show own_Q _ _ _ _ T1.heap _
    exact ⟨rfl, N0, e1⟩
set_option maxRecDepth 65536 in
set_option maxHeartbeats 40000000 in
theorem rm0_8 (l : Launch) (Z : State) (a0 : Array Value) (hw : ∀ d ∈ tables_1, d.before a0 Z = true) (ws : List Jvm.Cond) (p0 p1 : Int32) (a_READ a_WRITE a_UPGRADE : Addr) (h0 : Heap) (n0 : Nat) (Z0 : n0 ≤ h0.size) (FF : Facts Z h0 a_READ a_WRITE a_UPGRADE) (hk0 : ((p0 &&& (2147483647 : Int32)) % (3 : Int32)) = (2 : Int32)) (hk1 : ((p1 &&& (2147483647 : Int32)) % (3 : Int32)) = (2 : Int32)) :
    MetFree l x (head1 (Jvm.Cond.code x code maxLocals ret :: ws) room_1) (fun a U => a = #[(.int p0), (.int p1)] ∧ Z.Warmed39 U.vm ∧ U.heap = h0) (fun _ _ _ _ _ => True) (fun _ U o U' => ∃ v L, o = .returned v ∧ (v = some (.int (1 : Int32)) ∧ Fr n0 L) ∧ FrameEnd U o U' L room_1.cells room_1.slots) := by
  refine MetFree.of_bodySF (plainFor_of_name pn_0) hisR ?_
  intro p e s m args below meth c s₁ Bd hml0 hP hK
  obtain ⟨rfl, hZ, hh⟩ := hP
  have hx := Bd.exec
  have hby := Bd.bytes
  have hml : c.maxLocals = 8 := hml0
  have hown : s.vm.findClass "com/example/gridlok/gridlok/model/LockModeCoversPinLaw" = some m.cls := findClass_of_methodNamed Bd.named
  have X0 : Stand p l e room_1 s m #[(.int p0), (.int p1)] below meth c s₁ [] 0 0 := Stand.of_body Bd
  have e0 : s₁.heap = h0 := by rw [← hh, Bd.state]; rfl
  have N0 := Fr.nil n0
  have pre0 : ∀ t, Steps p.tables e below (s₁.setTop (mkF m 0 #[.val (.int p0), .val (.int p1), .unset, .unset, .unset, .unset, .unset, .unset] [])) t → Steps p.tables e below (s₁.setTop (entryFrame m #[(.int p0), (.int p1)] maxLocals)) t := fun t k => castTop (ef_0 m p0 p1) k
  obtain ⟨T1, h1, b1, k1, lc1, X1, e1, s_b1, z1, N1, FF1, V1, st1⟩ := seg_0 (l := l) (Z := Z) hw a_READ a_WRITE a_UPGRADE p0 p1 (2 : Int32) (2 : Int32) X0 hx hZ hby hml hown e0 Z0 N0 FF
  obtain ⟨_, _, ⟨T2, L2, k2, n2⟩, -, X2, ⟨Lc2, hQ2, l2, y2, z2⟩, st2⟩ := Jvm.LawKit.callS X1 hx (y := (⟨"com/example/gridlok/gridlok/model/LockModeCoversPinLaw", "mode", "(I)Lcom/example/gridlok/gridlok/model/LockMode;"⟩ : MethodName)) hown (mvT hZ (hw _ (List.mem_of_getElem? (i := 2) rfl))) (mvT hZ (hw _ (List.mem_of_getElem? (i := 3) rfl))) (mvT hZ (hw _ (List.mem_of_getElem? (i := 4) rfl))) (mvT hZ (hw _ (List.mem_of_getElem? (i := 5) rfl))) (by decide) (backOf (W := 0) (rm1_2 l Z a0 hw [] p0 p1 a_READ a_WRITE a_UPGRADE h1 n0 (Nat.le_trans Z0 z1) FF1) hZ (hw _ (List.mem_of_getElem? (i := 5) rfl)) (hw _ (List.mem_of_getElem? (i := 4) rfl)) (by decide) (by decide)) (g := (mkF m 60 #[.val (.int p0), .val (.int p1), .val (.int (2 : Int32)), .val (.int (2 : Int32)), .val (.ref b1), .unset, .unset, .unset] [(.int (2 : Int32))])) rfl (by rw [hml]; rfl) (argsL := [(.int (2 : Int32))]) (rest := []) (lenOf pd_0 rfl) rfl (by show 2 * 0 + _ ≤ _; exact Nat.le_of_eq rfl) (hb hby at_60) (fun _ _ => ⟨rfl, e1, (by decide : 1 + 0 ≤ _), (by decide : 9 + 0 ≤ _)⟩)
  dsimp only [Pt.U, Pt.locs, Pt.cells, Pt.slots] at X2 l2 y2 z2 st2 hQ2
  subst l2 y2 z2
  obtain ⟨rfl, N2q, e2⟩ := hQ2
  have N2 := Fr.app N1 N2q
  obtain ⟨_, _, ⟨T3, L3, k3, n3⟩, -, X3, ⟨Lc3, hQ3, l3, y3, z3⟩, st3⟩ := Jvm.LawKit.callS X2 hx (y := (⟨"com/example/gridlok/gridlok/model/LockModeCoversPinLaw", "mode", "(I)Lcom/example/gridlok/gridlok/model/LockMode;"⟩ : MethodName)) hown (mvT hZ (hw _ (List.mem_of_getElem? (i := 2) rfl))) (mvT hZ (hw _ (List.mem_of_getElem? (i := 3) rfl))) (mvT hZ (hw _ (List.mem_of_getElem? (i := 4) rfl))) (mvT hZ (hw _ (List.mem_of_getElem? (i := 5) rfl))) (by decide) (backOf (W := 0) (rm1_2 l Z a0 hw [] p0 p1 a_READ a_WRITE a_UPGRADE h1 n0 (Nat.le_trans Z0 z1) FF1) hZ (hw _ (List.mem_of_getElem? (i := 5) rfl)) (hw _ (List.mem_of_getElem? (i := 4) rfl)) (by decide) (by decide)) (g := (mkF m 66 #[.val (.int p0), .val (.int p1), .val (.int (2 : Int32)), .val (.int (2 : Int32)), .val (.ref b1), .val (.ref a_WRITE), .unset, .unset] [(.int (2 : Int32))])) rfl (by rw [hml]; rfl) (argsL := [(.int (2 : Int32))]) (rest := []) (lenOf pd_0 rfl) rfl (by show 2 * 0 + _ ≤ _; exact Nat.le_of_eq rfl) (hb hby at_66) (fun _ _ => ⟨rfl, e2, (by decide : 1 + 0 ≤ _), (by decide : 9 + 0 ≤ _)⟩)
  dsimp only [Pt.U, Pt.locs, Pt.cells, Pt.slots] at X3 l3 y3 z3 st3 hQ3
  subst l3 y3 z3
  obtain ⟨rfl, N3q, e3⟩ := hQ3
  have N3 := Fr.app N2 N3q
  obtain ⟨cq4, kq4, q4a, q4b, q4c⟩ := isOf hZ e3 (fx_E_WRITE FF1)
  obtain ⟨_, _, ⟨T4, L4, k4, n4⟩, -, X4, ⟨Lc4, hQ4, l4, y4, z4⟩, st4⟩ := X3.virtualBack hx (y := (⟨"com/example/gridlok/gridlok/model/LockMode", "covers", "(Lcom/example/gridlok/gridlok/model/LockMode;)Z"⟩ : MethodName)) (z := (⟨"com/example/gridlok/gridlok/model/LockMode", "covers", "(Lcom/example/gridlok/gridlok/model/LockMode;)Z"⟩ : MethodName)) hown (mvT hZ (hw _ (List.mem_of_getElem? (i := 9) rfl))) (mvT hZ (hw _ (List.mem_of_getElem? (i := 10) rfl))) (notFace_of_selects (args := #[]) (mvT hZ (hw _ (List.mem_of_getElem? (i := 12) rfl)))) (mvT hZ (hw _ (List.mem_of_getElem? (i := 12) rfl))) (mvT hZ (hw _ (List.mem_of_getElem? (i := 11) rfl))) (by decide) (backOf (W := 0) (rm2_8 l Z a0 hw [] p0 p1 a_READ a_WRITE a_UPGRADE h1 n0 (Nat.le_trans Z0 z1) FF1) hZ (hw _ (List.mem_of_getElem? (i := 13) rfl)) (hw _ (List.mem_of_getElem? (i := 7) rfl)) (by decide) (by decide)) q4a q4c (g := (mkF m 75 #[.val (.int p0), .val (.int p1), .val (.int (2 : Int32)), .val (.int (2 : Int32)), .val (.ref b1), .val (.ref a_WRITE), .val (.ref a_WRITE), .unset] [(.ref a_WRITE), (.ref a_WRITE)])) rfl (by rw [hml]; rfl) (Steps.refl _) (argsL := [(.ref a_WRITE)]) (rest := []) (lenOf pd_1 rfl) rfl (by show 2 * 0 + _ ≤ _; exact Nat.le_of_eq rfl) (hb hby at_75) (fun _ _ => ⟨rfl, e3, (by decide : 1 + 0 ≤ _), (by decide : 9 + 0 ≤ _)⟩)
  dsimp only [Pt.U, Pt.locs, Pt.cells, Pt.slots] at X4 l4 y4 z4 st4 hQ4
  subst l4 y4 z4
  obtain ⟨rfl, N4q, e4⟩ := hQ4
  have N4 := Fr.app N3 N4q
  obtain ⟨c5, r5, -, S5, -, H5, -⟩ := V1
  have i5 : ¬ ((8 : Int32) < 0 ∨ c5.slots.size ≤ ((8 : Int32)).toNatClampNeg) := inb_of S5 ⟨by decide, by decide⟩
  have y5 : c5.slots[((8 : Int32)).toNatClampNeg]? = some (.int (1 : Int32)) := H5 8 (by rw [S5]; decide)
  obtain ⟨fs, hr, hrun, hended, hW, hsame⟩ := X4.leave (v := some (.int (1 : Int32))) (fun h => by rw [Bd.returns] at h; cases h)
  refine ⟨_, _, pre0 _ ?_, hrun, hended, _, _, rfl, ?_, ⟨_, rfl⟩, hW, hsame.mono (by decide) (by decide)⟩
  · show Steps p.tables e below (s₁.setTop (mkF m 0 #[.val (.int p0), .val (.int p1), .unset, .unset, .unset, .unset, .unset, .unset] [])) _
    refine XS.iloadN X0.here hx rfl (hb hby at_0) rfl ?_
    show Steps p.tables e below (s₁.setTop (mkF m 1 #[.val (.int p0), .val (.int p1), .unset, .unset, .unset, .unset, .unset, .unset] [(.int p0)])) _
    refine X0.ldcInt hx hown (mvT hZ (hw _ (List.mem_of_getElem? (i := 0) rfl))) (g := (mkF m 1 #[.val (.int p0), .val (.int p1), .unset, .unset, .unset, .unset, .unset, .unset] [(.int p0)])) rfl (hb hby at_1) _ ?_
    show Steps p.tables e below (s₁.setTop (mkF m 3 #[.val (.int p0), .val (.int p1), .unset, .unset, .unset, .unset, .unset, .unset] [(.int (2147483647 : Int32)), (.int p0)])) _
    refine XS.iand X0.here hx rfl (hb hby at_3) rfl ?_
    show Steps p.tables e below (s₁.setTop (mkF m 4 #[.val (.int p0), .val (.int p1), .unset, .unset, .unset, .unset, .unset, .unset] [(.int (p0 &&& (2147483647 : Int32)))])) _
    refine XS.iconst X0.here hx rfl (hb hby at_4) ?_
    show Steps p.tables e below (s₁.setTop (mkF m 5 #[.val (.int p0), .val (.int p1), .unset, .unset, .unset, .unset, .unset, .unset] [(.int (3 : Int32)), (.int (p0 &&& (2147483647 : Int32)))])) _
    refine iremM X0 hx rfl (hb hby at_5) rfl (by decide) ?_
    show Steps p.tables e below (s₁.setTop (mkF m 6 #[.val (.int p0), .val (.int p1), .unset, .unset, .unset, .unset, .unset, .unset] [(.int ((p0 &&& (2147483647 : Int32)) % (3 : Int32)))])) _
    rw [hk0]
    show Steps p.tables e below (s₁.setTop (mkF m 6 #[.val (.int p0), .val (.int p1), .unset, .unset, .unset, .unset, .unset, .unset] [(.int (2 : Int32))])) _
    refine XS.istoreN X0.here hx rfl (hb hby at_6) rfl (l' := #[.val (.int p0), .val (.int p1), .val (.int (2 : Int32)), .unset, .unset, .unset, .unset, .unset]) rfl ?_
    show Steps p.tables e below (s₁.setTop (mkF m 7 #[.val (.int p0), .val (.int p1), .val (.int (2 : Int32)), .unset, .unset, .unset, .unset, .unset] [])) _
    refine XS.iloadN X0.here hx rfl (hb hby at_7) rfl ?_
    show Steps p.tables e below (s₁.setTop (mkF m 8 #[.val (.int p0), .val (.int p1), .val (.int (2 : Int32)), .unset, .unset, .unset, .unset, .unset] [(.int p1)])) _
    refine X0.ldcInt hx hown (mvT hZ (hw _ (List.mem_of_getElem? (i := 0) rfl))) (g := (mkF m 8 #[.val (.int p0), .val (.int p1), .val (.int (2 : Int32)), .unset, .unset, .unset, .unset, .unset] [(.int p1)])) rfl (hb hby at_8) _ ?_
    show Steps p.tables e below (s₁.setTop (mkF m 10 #[.val (.int p0), .val (.int p1), .val (.int (2 : Int32)), .unset, .unset, .unset, .unset, .unset] [(.int (2147483647 : Int32)), (.int p1)])) _
    refine XS.iand X0.here hx rfl (hb hby at_10) rfl ?_
    show Steps p.tables e below (s₁.setTop (mkF m 11 #[.val (.int p0), .val (.int p1), .val (.int (2 : Int32)), .unset, .unset, .unset, .unset, .unset] [(.int (p1 &&& (2147483647 : Int32)))])) _
    refine XS.iconst X0.here hx rfl (hb hby at_11) ?_
    show Steps p.tables e below (s₁.setTop (mkF m 12 #[.val (.int p0), .val (.int p1), .val (.int (2 : Int32)), .unset, .unset, .unset, .unset, .unset] [(.int (3 : Int32)), (.int (p1 &&& (2147483647 : Int32)))])) _
    refine iremM X0 hx rfl (hb hby at_12) rfl (by decide) ?_
    show Steps p.tables e below (s₁.setTop (mkF m 13 #[.val (.int p0), .val (.int p1), .val (.int (2 : Int32)), .unset, .unset, .unset, .unset, .unset] [(.int ((p1 &&& (2147483647 : Int32)) % (3 : Int32)))])) _
    rw [hk1]
    show Steps p.tables e below (s₁.setTop (mkF m 13 #[.val (.int p0), .val (.int p1), .val (.int (2 : Int32)), .unset, .unset, .unset, .unset, .unset] [(.int (2 : Int32))])) _
    refine XS.istoreN X0.here hx rfl (hb hby at_13) rfl (l' := #[.val (.int p0), .val (.int p1), .val (.int (2 : Int32)), .val (.int (2 : Int32)), .unset, .unset, .unset, .unset]) rfl ?_
    show Steps p.tables e below (s₁.setTop (mkF m 14 #[.val (.int p0), .val (.int p1), .val (.int (2 : Int32)), .val (.int (2 : Int32)), .unset, .unset, .unset, .unset] [])) _
    refine st1 _ ?_
    show Steps p.tables e below (T1.setTop (mkF m 59 #[.val (.int p0), .val (.int p1), .val (.int (2 : Int32)), .val (.int (2 : Int32)), .val (.ref b1), .unset, .unset, .unset] [])) _
    refine XS.iloadN X1.here hx rfl (hb hby at_59) rfl ?_
    show Steps p.tables e below (T1.setTop (mkF m 60 #[.val (.int p0), .val (.int p1), .val (.int (2 : Int32)), .val (.int (2 : Int32)), .val (.ref b1), .unset, .unset, .unset] [(.int (2 : Int32))])) _
    refine st2 _ ?_
    show Steps p.tables e below (T2.setTop (mkF m 63 #[.val (.int p0), .val (.int p1), .val (.int (2 : Int32)), .val (.int (2 : Int32)), .val (.ref b1), .unset, .unset, .unset] [(.ref a_WRITE)])) _
    refine XS.astore X2.here hx rfl (hb hby at_63) rfl rfl (l' := #[.val (.int p0), .val (.int p1), .val (.int (2 : Int32)), .val (.int (2 : Int32)), .val (.ref b1), .val (.ref a_WRITE), .unset, .unset]) rfl ?_
    show Steps p.tables e below (T2.setTop (mkF m 65 #[.val (.int p0), .val (.int p1), .val (.int (2 : Int32)), .val (.int (2 : Int32)), .val (.ref b1), .val (.ref a_WRITE), .unset, .unset] [])) _
    refine XS.iloadN X2.here hx rfl (hb hby at_65) rfl ?_
    show Steps p.tables e below (T2.setTop (mkF m 66 #[.val (.int p0), .val (.int p1), .val (.int (2 : Int32)), .val (.int (2 : Int32)), .val (.ref b1), .val (.ref a_WRITE), .unset, .unset] [(.int (2 : Int32))])) _
    refine st3 _ ?_
    show Steps p.tables e below (T3.setTop (mkF m 69 #[.val (.int p0), .val (.int p1), .val (.int (2 : Int32)), .val (.int (2 : Int32)), .val (.ref b1), .val (.ref a_WRITE), .unset, .unset] [(.ref a_WRITE)])) _
    refine XS.astore X3.here hx rfl (hb hby at_69) rfl rfl (l' := #[.val (.int p0), .val (.int p1), .val (.int (2 : Int32)), .val (.int (2 : Int32)), .val (.ref b1), .val (.ref a_WRITE), .val (.ref a_WRITE), .unset]) rfl ?_
    show Steps p.tables e below (T3.setTop (mkF m 71 #[.val (.int p0), .val (.int p1), .val (.int (2 : Int32)), .val (.int (2 : Int32)), .val (.ref b1), .val (.ref a_WRITE), .val (.ref a_WRITE), .unset] [])) _
    refine XS.aload X3.here hx rfl (hb hby at_71) rfl rfl ?_
    show Steps p.tables e below (T3.setTop (mkF m 73 #[.val (.int p0), .val (.int p1), .val (.int (2 : Int32)), .val (.int (2 : Int32)), .val (.ref b1), .val (.ref a_WRITE), .val (.ref a_WRITE), .unset] [(.ref a_WRITE)])) _
    refine XS.aload X3.here hx rfl (hb hby at_73) rfl rfl ?_
    show Steps p.tables e below (T3.setTop (mkF m 75 #[.val (.int p0), .val (.int p1), .val (.int (2 : Int32)), .val (.int (2 : Int32)), .val (.ref b1), .val (.ref a_WRITE), .val (.ref a_WRITE), .unset] [(.ref a_WRITE), (.ref a_WRITE)])) _
    refine st4.trans ?_
    show Steps p.tables e below (T4.setTop (mkF m 78 #[.val (.int p0), .val (.int p1), .val (.int (2 : Int32)), .val (.int (2 : Int32)), .val (.ref b1), .val (.ref a_WRITE), .val (.ref a_WRITE), .unset] [(.int (1 : Int32))])) _
    refine XS.istore X4.here hx rfl (hb hby at_78) rfl (l' := #[.val (.int p0), .val (.int p1), .val (.int (2 : Int32)), .val (.int (2 : Int32)), .val (.ref b1), .val (.ref a_WRITE), .val (.ref a_WRITE), .val (.int (1 : Int32))]) rfl ?_
    show Steps p.tables e below (T4.setTop (mkF m 80 #[.val (.int p0), .val (.int p1), .val (.int (2 : Int32)), .val (.int (2 : Int32)), .val (.ref b1), .val (.ref a_WRITE), .val (.ref a_WRITE), .val (.int (1 : Int32))] [])) _
    refine XS.iload X4.here hx rfl (hb hby at_80) rfl ?_
    show Steps p.tables e below (T4.setTop (mkF m 82 #[.val (.int p0), .val (.int p1), .val (.int (2 : Int32)), .val (.int (2 : Int32)), .val (.ref b1), .val (.ref a_WRITE), .val (.ref a_WRITE), .val (.int (1 : Int32))] [(.int (1 : Int32))])) _
    refine XS.aload X4.here hx rfl (hb hby at_82) rfl rfl ?_
    show Steps p.tables e below (T4.setTop (mkF m 84 #[.val (.int p0), .val (.int p1), .val (.int (2 : Int32)), .val (.int (2 : Int32)), .val (.ref b1), .val (.ref a_WRITE), .val (.ref a_WRITE), .val (.int (1 : Int32))] [(.ref b1), (.int (1 : Int32))])) _
    refine XS.iloadN X4.here hx rfl (hb hby at_84) rfl ?_
    show Steps p.tables e below (T4.setTop (mkF m 85 #[.val (.int p0), .val (.int p1), .val (.int (2 : Int32)), .val (.int (2 : Int32)), .val (.ref b1), .val (.ref a_WRITE), .val (.ref a_WRITE), .val (.int (1 : Int32))] [(.int (2 : Int32)), (.ref b1), (.int (1 : Int32))])) _
    refine XS.iconst X4.here hx rfl (hb hby at_85) ?_
    show Steps p.tables e below (T4.setTop (mkF m 86 #[.val (.int p0), .val (.int p1), .val (.int (2 : Int32)), .val (.int (2 : Int32)), .val (.ref b1), .val (.ref a_WRITE), .val (.ref a_WRITE), .val (.int (1 : Int32))] [(.int (3 : Int32)), (.int (2 : Int32)), (.ref b1), (.int (1 : Int32))])) _
    refine XS.imul X4.here hx rfl (hb hby at_86) rfl ?_
    show Steps p.tables e below (T4.setTop (mkF m 87 #[.val (.int p0), .val (.int p1), .val (.int (2 : Int32)), .val (.int (2 : Int32)), .val (.ref b1), .val (.ref a_WRITE), .val (.ref a_WRITE), .val (.int (1 : Int32))] [(.int ((2 : Int32) * (3 : Int32))), (.ref b1), (.int (1 : Int32))])) _
    rw [(by decide : ((2 : Int32) * (3 : Int32)) = (6 : Int32))]
    show Steps p.tables e below (T4.setTop (mkF m 87 #[.val (.int p0), .val (.int p1), .val (.int (2 : Int32)), .val (.int (2 : Int32)), .val (.ref b1), .val (.ref a_WRITE), .val (.ref a_WRITE), .val (.int (1 : Int32))] [(.int (6 : Int32)), (.ref b1), (.int (1 : Int32))])) _
    refine XS.iloadN X4.here hx rfl (hb hby at_87) rfl ?_
    show Steps p.tables e below (T4.setTop (mkF m 88 #[.val (.int p0), .val (.int p1), .val (.int (2 : Int32)), .val (.int (2 : Int32)), .val (.ref b1), .val (.ref a_WRITE), .val (.ref a_WRITE), .val (.int (1 : Int32))] [(.int (2 : Int32)), (.int (6 : Int32)), (.ref b1), (.int (1 : Int32))])) _
    refine XS.iadd X4.here hx rfl (hb hby at_88) rfl ?_
    show Steps p.tables e below (T4.setTop (mkF m 89 #[.val (.int p0), .val (.int p1), .val (.int (2 : Int32)), .val (.int (2 : Int32)), .val (.ref b1), .val (.ref a_WRITE), .val (.ref a_WRITE), .val (.int (1 : Int32))] [(.int ((6 : Int32) + (2 : Int32))), (.ref b1), (.int (1 : Int32))])) _
    rw [(by decide : ((6 : Int32) + (2 : Int32)) = (8 : Int32))]
    show Steps p.tables e below (T4.setTop (mkF m 89 #[.val (.int p0), .val (.int p1), .val (.int (2 : Int32)), .val (.int (2 : Int32)), .val (.ref b1), .val (.ref a_WRITE), .val (.ref a_WRITE), .val (.int (1 : Int32))] [(.int (8 : Int32)), (.ref b1), (.int (1 : Int32))])) _
    refine X4.baloadBooleans hx (j := (8 : Int32)) (v := (.int (1 : Int32))) (by rw [e4]; exact r5.1) (State.isArrayOf_alike hZ.alike r5.2.1) r5.2.2 i5 y5 (g := (mkF m 89 #[.val (.int p0), .val (.int p1), .val (.int (2 : Int32)), .val (.int (2 : Int32)), .val (.ref b1), .val (.ref a_WRITE), .val (.ref a_WRITE), .val (.int (1 : Int32))] [(.int (8 : Int32)), (.ref b1), (.int (1 : Int32))])) rfl rfl (hb hby at_89) _ ?_
    show Steps p.tables e below (T4.setTop (mkF m 90 #[.val (.int p0), .val (.int p1), .val (.int (2 : Int32)), .val (.int (2 : Int32)), .val (.ref b1), .val (.ref a_WRITE), .val (.ref a_WRITE), .val (.int (1 : Int32))] [(.int (1 : Int32)), (.int (1 : Int32))])) _
    refine XS.icmpNo X4.here hx rfl (hb hby at_90) rfl (by decide) ?_
    show Steps p.tables e below (T4.setTop (mkF m 93 #[.val (.int p0), .val (.int p1), .val (.int (2 : Int32)), .val (.int (2 : Int32)), .val (.ref b1), .val (.ref a_WRITE), .val (.ref a_WRITE), .val (.int (1 : Int32))] [])) _
    refine XS.iconst X4.here hx rfl (hb hby at_93) ?_
    show Steps p.tables e below (T4.setTop (mkF m 94 #[.val (.int p0), .val (.int p1), .val (.int (2 : Int32)), .val (.int (2 : Int32)), .val (.ref b1), .val (.ref a_WRITE), .val (.ref a_WRITE), .val (.int (1 : Int32))] [(.int (1 : Int32))])) _
    refine XS.goto X4.here hx rfl (pc0 := 94) (pc' := 98) rfl (hb hby at_94) (by decide) (by decide) ?_
    show Steps p.tables e below (T4.setTop (mkF m 98 #[.val (.int p0), .val (.int p1), .val (.int (2 : Int32)), .val (.int (2 : Int32)), .val (.ref b1), .val (.ref a_WRITE), .val (.ref a_WRITE), .val (.int (1 : Int32))] [(.int (1 : Int32))])) _
    exact retN X4 hx (t := .boolean) Bd.returns (by simp) (hb hby at_98) hr
  · exact ⟨rfl, N4⟩
theorem rm0 (l : Launch) (Z : State) (a0 : Array Value) (hw : ∀ d ∈ tables_1, d.before a0 Z = true) (ws : List Jvm.Cond) (p0 p1 : Int32) (a_READ a_WRITE a_UPGRADE : Addr) (h0 : Heap) (n0 : Nat) (Z0 : n0 ≤ h0.size) (FF : Facts Z h0 a_READ a_WRITE a_UPGRADE) :
    MetFree l x (head1 (Jvm.Cond.code x code maxLocals ret :: ws) room_1) (fun a U => a = #[(.int p0), (.int p1)] ∧ Z.Warmed39 U.vm ∧ U.heap = h0) (fun _ _ _ _ _ => True) (fun _ U o U' => ∃ v L, o = .returned v ∧ (v = some (.int (1 : Int32)) ∧ Fr n0 L) ∧ FrameEnd U o U' L room_1.cells room_1.slots) := by
  rcases own_split0 p0 with hk0 | hk0 | hk0
  · rcases own_split1 p1 with hk1 | hk1 | hk1
    · exact rm0_0 l Z a0 hw ws p0 p1 a_READ a_WRITE a_UPGRADE h0 n0 Z0 FF hk0 hk1
    · exact rm0_1 l Z a0 hw ws p0 p1 a_READ a_WRITE a_UPGRADE h0 n0 Z0 FF hk0 hk1
    · exact rm0_2 l Z a0 hw ws p0 p1 a_READ a_WRITE a_UPGRADE h0 n0 Z0 FF hk0 hk1
  · rcases own_split1 p1 with hk1 | hk1 | hk1
    · exact rm0_3 l Z a0 hw ws p0 p1 a_READ a_WRITE a_UPGRADE h0 n0 Z0 FF hk0 hk1
    · exact rm0_4 l Z a0 hw ws p0 p1 a_READ a_WRITE a_UPGRADE h0 n0 Z0 FF hk0 hk1
    · exact rm0_5 l Z a0 hw ws p0 p1 a_READ a_WRITE a_UPGRADE h0 n0 Z0 FF hk0 hk1
  · rcases own_split1 p1 with hk1 | hk1 | hk1
    · exact rm0_6 l Z a0 hw ws p0 p1 a_READ a_WRITE a_UPGRADE h0 n0 Z0 FF hk0 hk1
    · exact rm0_7 l Z a0 hw ws p0 p1 a_READ a_WRITE a_UPGRADE h0 n0 Z0 FF hk0 hk1
    · exact rm0_8 l Z a0 hw ws p0 p1 a_READ a_WRITE a_UPGRADE h0 n0 Z0 FF hk0 hk1
set_option maxRecDepth 65536 in
set_option maxHeartbeats 40000000 in
theorem comes_1 {Post : Tables → Env → Array Value → State → Outcome → State → Prop} (hpost : ∀ tb e args s v u, (limb_1_1.after args s (.returned v) u = true ∧ limb_1_2.after args s (.returned v) u = true ∧ True) → FrameEnd s (.returned v) u (Jvm.fieldLocs frame_1_writes args s ++ Jvm.arrayLocs frame_1_arrays args s ++ Jvm.staticLocs frame_1_statics s) 16 128 → Post tb e args s (.returned v) u) :
    ArmFor flags0 classFile x code maxLocals ret World_1 tables_1 room_1 Calls_1 rest_1 Pre_1 Post := by
  intro l hfl _ _ p e ha hc hk s m args below hf hA hF happ hP
  obtain ⟨hcalls, hrest, hpre⟩ := hP
  obtain ⟨-, -, -, hnamed, -, -, -, hat⟩ := (Spec.applies_iff hf).mp happ
  obtain ⟨hg, hn⟩ := and_e (Cond.before_iff.mp (show (Jvm.Cond.and given_1 narrow_1).before args s = true from hpre))
  obtain ⟨gc, gr0⟩ := and_e hg
  obtain ⟨gi0, gr1⟩ := and_e gr0
  obtain ⟨w0, w1, rfl⟩ : ∃ w0 w1 : Value, args = #[w0, w1] := by
    have hs : args.size = 2 := by simpa [Cond.value, given_1] using gc
    obtain ⟨L⟩ := args
    match L, hs with
    | [w0, w1], _ => exact ⟨w0, w1, rfl⟩
  have hw := fun d (hd : d ∈ tables_1) => atoms_spec (ws := Jvm.Cond.code x code maxLocals ret :: tables_1) hat d (List.mem_cons_of_mem _ hd)
  obtain ⟨i0, ei0⟩ := is_v gi0
  obtain rfl : w0 = (.int i0) := Option.some.inj ei0
  obtain ⟨i1, ei1⟩ := is_v gr1
  obtain rfl : w1 = (.int i1) := Option.some.inj ei1
  obtain ⟨na1, nb1⟩ := and_e hn
  obtain ⟨na2, nb2⟩ := and_e nb1
  obtain ⟨na3, nb3⟩ := and_e nb2
  obtain ⟨na4, nb4⟩ := and_e nb3
  obtain ⟨na5, nb5⟩ := and_e nb4
  obtain ⟨a_READ, ev_a_READ⟩ := exa_v na1
  obtain ⟨a_WRITE, ev_a_WRITE⟩ := exa_v na2
  obtain ⟨a_UPGRADE, ev_a_UPGRADE⟩ := exa_v na5
  have FF : Facts s s.heap a_READ a_WRITE a_UPGRADE := ⟨Sta.start ev_a_READ (Or.inr ⟨(hw _ (List.mem_of_getElem? (i := 7) rfl)), (hw _ (List.mem_of_getElem? (i := 8) rfl))⟩), Exa.start ev_a_READ na1, Sta.start ev_a_WRITE (Or.inr ⟨(hw _ (List.mem_of_getElem? (i := 7) rfl)), (hw _ (List.mem_of_getElem? (i := 15) rfl))⟩), Exa.start ev_a_WRITE na2, Fld.start ((fld_at ev_a_READ).symm.trans (own_eqi na3)), Fld.start ((fld_at ev_a_WRITE).symm.trans (own_eqi na4)), Sta.start ev_a_UPGRADE (Or.inr ⟨(hw _ (List.mem_of_getElem? (i := 7) rfl)), (hw _ (List.mem_of_getElem? (i := 18) rfl))⟩), Exa.start ev_a_UPGRADE na5, Fld.start ((fld_at ev_a_UPGRADE).symm.trans (own_eqi nb5))⟩
  obtain ⟨n, o, h1, h2, h3, _, L, rfl, ⟨rfl, N⟩, hq⟩ := rm0 l s _ hw tables_1 i0 i1 a_READ a_WRITE a_UPGRADE s.heap s.heap.size (Nat.le_refl _) FF p e ha hc hk s m _ below hf ((Spec.applies_iff_loose hf).mp happ).1 ⟨rfl, State.Warmed39.refl s, rfl⟩ trivial
  refine ⟨n, _, h1, h2, h3, hpost _ _ _ _ _ _ ⟨Cond.after_iff.mpr rfl, Cond.after_iff.mpr (eq_i res_at (Term.int_eval (1)) rfl), trivial⟩ ⟨hq.1, hq.2.1, (hq.2.2.sift fun y hy => Or.inr (N y hy)).mono (by decide) (by decide)⟩⟩
theorem main_1_1 : Claimed_1_1 := comes_1 fun _ _ _ _ _ _ h hF => ⟨h.1, hF⟩
theorem main_1_2 : Claimed_1_2 := comes_1 fun _ _ _ _ _ _ h hF => ⟨h.2.1, hF⟩
end Jvm.Pilot.@@N@@
namespace Jvm.Pilot.@@N@@
open Jvm Jvm.ClassFile Sem Op Lib Jvm.Free Jvm.Stand Jvm.Pilot.@@N@@.Jvm.D
/-! MADE BY PROGRAM (witnessworld.py) out of the Statement's table words and the real class files: 14 classes; the members and pool entries that the words name. The judged class is class 1, her method 2. -/
namespace start1
open Jvm.ClassFile
def u (s : String) : CpInfo := .utf8 (stringToUtf16 s)
/-- a pool by its gaps: so many unusable entries, then the entry; so many at the end -/
def gap : Nat → List CpInfo → List CpInfo
  | 0, r => r
  | n + 1, r => .unusable :: gap n r
def poolList (es : List (Nat × CpInfo)) (last : Nat) : List CpInfo := es.foldr (fun e r => gap e.1 (e.2 :: r)) (gap last [])
def pool (es : List (Nat × CpInfo)) (last : Nat) : Array CpInfo := ⟨poolList es last⟩
def fileOf (pool : Array CpInfo) (this : Nat) (attrs : Array Attribute := #[]) (ms : Array MethodInfo := #[]) (fl : Nat := 33) (sup : Nat := 0) (ifs : Array Nat := #[]) (fds : Array FieldInfo := #[]) : ClassFile where
  minorVersion := 0
  majorVersion := 65
  constantPool := pool
  accessFlags := fl
  thisClass := this
  superClass := sup
  interfaces := ifs
  fields := fds
  methods := ms
  attributes := attrs
def plain (name : String) (sup : Option ClassId) : Class where
  name := name
  kind := .ordinary
  loader := none
  accessFlags := 33
  super := sup
  interfaces := #[]
  cf := none
  fields := #[]
  methods := #[]
  instanceTypes := #[]
  staticTypes := #[]
  resolved := #[]
  callSites := []
  init := .initialized
  statics := none
  mirror := none

def pool0 : Array CpInfo := pool [(5, u "<init>"), (0, u "()V"), (1, .class_ 10), (1, u "java/lang/Object")] 113

def k0m0 : Method := { name := "<init>", desc := "()V", sig := { parameters := [], returnType := none }, accessFlags := 1, code := none }
/-- java/lang/Object -/
def k0 : Class := { plain "java/lang/Object" none with
  accessFlags := 33
  interfaces := #[]
  cf := some (fileOf pool0 8 #[] #[{ accessFlags := 1, nameIndex := 5, descriptorIndex := 6, attributes := #[] }] 33 0 #[] #[])
  fields := #[]
  methods := #[k0m0]
  instanceTypes := #[]
  staticTypes := #[]
  resolved := Array.replicate 124 none
  statics := none }

def pool1 : Array CpInfo := pool [(2, .class_ 4), (1, u "java/lang/Object"), (0, u "<init>"), (0, u "()V"), (0, .fieldref 8 9), (0, .class_ 10), (0, .nameAndType 11 12), (0, u "com/example/gridlok/gridlok/model/LockMode"), (0, u "READ"), (0, u "Lcom/example/gridlok/gridlok/model/LockMode;"), (0, .fieldref 8 14), (0, .nameAndType 15 12), (0, u "UPGRADE"), (0, .fieldref 8 17), (0, .nameAndType 18 12), (0, u "WRITE"), (0, .integer 2147483647), (0, .methodref 21 22), (0, .class_ 23), (0, .nameAndType 24 25), (0, u "com/example/gridlok/gridlok/model/LockModeCoversPinLaw"), (0, u "mode"), (0, u "(I)Lcom/example/gridlok/gridlok/model/LockMode;"), (0, .methodref 8 27), (0, .nameAndType 28 29), (0, u "covers"), (0, u "(Lcom/example/gridlok/gridlok/model/LockMode;)Z"), (3, u "law"), (0, u "(II)Z")] 4

def k1m0 : Method := { name := "<init>", desc := "()V", sig := { parameters := [], returnType := none }, accessFlags := 1, code := none }
def k1c1 : Code := { maxStack := 2, maxLocals := 1, code := method_2_code, exceptionTable := #[], attributes := #[] }
def k1m1 : Method := { name := "mode", desc := "(I)Lcom/example/gridlok/gridlok/model/LockMode;", sig := { parameters := [.int], returnType := some (.object "com/example/gridlok/gridlok/model/LockMode") }, accessFlags := 10, code := some k1c1 }
def k1c2 : Code := { maxStack := 4, maxLocals := 8, code := code, exceptionTable := #[], attributes := #[] }
def k1m2 : Method := { name := "law", desc := "(II)Z", sig := { parameters := [.int, .int], returnType := some .boolean }, accessFlags := 9, code := some k1c2 }
/-- com/example/gridlok/gridlok/model/LockModeCoversPinLaw -/
def k1 : Class := { plain "com/example/gridlok/gridlok/model/LockModeCoversPinLaw" (some 0) with
  accessFlags := 49
  interfaces := #[]
  cf := some (fileOf pool1 21 #[] #[{ accessFlags := 1, nameIndex := 5, descriptorIndex := 6, attributes := #[] }, { accessFlags := 10, nameIndex := 24, descriptorIndex := 25, attributes := #[] }, { accessFlags := 9, nameIndex := 33, descriptorIndex := 34, attributes := #[] }] 49 2 #[] #[])
  fields := #[]
  methods := #[k1m0, k1m1, k1m2]
  instanceTypes := #[]
  staticTypes := #[]
  resolved := Array.replicate 39 none
  statics := none }

def pool2 : Array CpInfo := pool [(1, .class_ 2), (0, u "java/lang/constant/Constable"), (0, .class_ 4), (0, u "java/lang/Object")] 6

/-- java/lang/constant/Constable -/
def k2 : Class := { plain "java/lang/constant/Constable" (some 0) with
  accessFlags := 1537
  interfaces := #[]
  cf := some (fileOf pool2 1 #[] #[] 1537 3 #[] #[])
  fields := #[]
  methods := #[]
  instanceTypes := #[]
  staticTypes := #[]
  resolved := Array.replicate 11 none
  statics := none }

def pool3 : Array CpInfo := pool [(1, .class_ 2), (0, u "java/lang/Comparable"), (0, .class_ 4), (0, u "java/lang/Object")] 7

/-- java/lang/Comparable -/
def k3 : Class := { plain "java/lang/Comparable" (some 0) with
  accessFlags := 1537
  interfaces := #[]
  cf := some (fileOf pool3 1 #[] #[] 1537 3 #[] #[])
  fields := #[]
  methods := #[]
  instanceTypes := #[]
  staticTypes := #[]
  resolved := Array.replicate 12 none
  statics := none }

def pool4 : Array CpInfo := pool [(1, .class_ 2), (0, u "java/io/Serializable"), (0, .class_ 4), (0, u "java/lang/Object")] 2

/-- java/io/Serializable -/
def k4 : Class := { plain "java/io/Serializable" (some 0) with
  accessFlags := 1537
  interfaces := #[]
  cf := some (fileOf pool4 1 #[] #[] 1537 3 #[] #[])
  fields := #[]
  methods := #[]
  instanceTypes := #[]
  staticTypes := #[]
  resolved := Array.replicate 7 none
  statics := none }

def pool5 : Array CpInfo := pool [(2, .class_ 4), (1, u "java/lang/Enum"), (0, u "name"), (0, u "Ljava/lang/String;"), (2, u "ordinal"), (0, u "I"), (1, .class_ 14), (1, u "java/lang/Object"), (4, u "hash"), (86, .class_ 108), (1, u "java/lang/Enum$EnumDesc"), (2, .class_ 112), (0, u "java/lang/constant/Constable"), (0, .class_ 114), (0, u "java/lang/Comparable"), (0, .class_ 116), (0, u "java/io/Serializable")] 87

/-- java/lang/Enum -/
def k5 : Class := { plain "java/lang/Enum" (some 0) with
  accessFlags := 1057
  interfaces := #[2, 3, 4]
  cf := some (fileOf pool5 2 #[.nestMembers #[106]] #[] 1057 12 #[111, 113, 115] #[{ accessFlags := 18, nameIndex := 5, descriptorIndex := 6, attributes := #[] }, { accessFlags := 18, nameIndex := 9, descriptorIndex := 10, attributes := #[] }, { accessFlags := 2, nameIndex := 19, descriptorIndex := 10, attributes := #[] }])
  fields := #[{ name := "name", type := (.object "java/lang/String"), accessFlags := 18, slot := 0, constantValue := 0 }, { name := "ordinal", type := .int, accessFlags := 18, slot := 1, constantValue := 0 }, { name := "hash", type := .int, accessFlags := 2, slot := 2, constantValue := 0 }]
  methods := #[]
  instanceTypes := #[(.object "java/lang/String"), .int, .int]
  staticTypes := #[]
  resolved := Array.replicate 204 none
  statics := none }

def pool6 : Array CpInfo := pool [(1, .class_ 2), (0, u "com/example/gridlok/gridlok/model/LockMode"), (2, u "READ"), (0, u "Lcom/example/gridlok/gridlok/model/LockMode;"), (2, u "UPGRADE"), (0, .fieldref 1 11), (0, .nameAndType 12 6), (0, u "WRITE"), (2, u "$VALUES"), (0, u "[Lcom/example/gridlok/gridlok/model/LockMode;"), (6, .class_ 25), (1, u "java/lang/Enum"), (24, u "covers"), (0, u "(Lcom/example/gridlok/gridlok/model/LockMode;)Z")] 4

def k6c0 : Code := { maxStack := 2, maxLocals := 2, code := prog_9_method_5_code, exceptionTable := #[], attributes := #[] }
def k6m0 : Method := { name := "covers", desc := "(Lcom/example/gridlok/gridlok/model/LockMode;)Z", sig := { parameters := [(.object "com/example/gridlok/gridlok/model/LockMode")], returnType := some .boolean }, accessFlags := 1, code := some k6c0 }
/-- com/example/gridlok/gridlok/model/LockMode -/
def k6 : Class := { plain "com/example/gridlok/gridlok/model/LockMode" (some 5) with
  accessFlags := 16433
  interfaces := #[]
  cf := some (fileOf pool6 1 #[] #[{ accessFlags := 1, nameIndex := 50, descriptorIndex := 51, attributes := #[] }] 16433 23 #[] #[{ accessFlags := 16409, nameIndex := 5, descriptorIndex := 6, attributes := #[] }, { accessFlags := 16409, nameIndex := 9, descriptorIndex := 6, attributes := #[] }, { accessFlags := 16409, nameIndex := 12, descriptorIndex := 6, attributes := #[] }, { accessFlags := 4122, nameIndex := 15, descriptorIndex := 16, attributes := #[] }])
  fields := #[{ name := "READ", type := (.object "com/example/gridlok/gridlok/model/LockMode"), accessFlags := 16409, slot := 0, constantValue := 0 }, { name := "UPGRADE", type := (.object "com/example/gridlok/gridlok/model/LockMode"), accessFlags := 16409, slot := 1, constantValue := 0 }, { name := "WRITE", type := (.object "com/example/gridlok/gridlok/model/LockMode"), accessFlags := 16409, slot := 2, constantValue := 0 }, { name := "$VALUES", type := (.array (.object "com/example/gridlok/gridlok/model/LockMode")), accessFlags := 4122, slot := 3, constantValue := 0 }]
  methods := #[k6m0]
  instanceTypes := #[(.object "java/lang/String"), .int, .int]
  staticTypes := #[(.object "com/example/gridlok/gridlok/model/LockMode"), (.object "com/example/gridlok/gridlok/model/LockMode"), (.object "com/example/gridlok/gridlok/model/LockMode"), (.array (.object "com/example/gridlok/gridlok/model/LockMode"))]
  resolved := Array.replicate 56 none
  statics := some 0 }

def pool7 : Array CpInfo := pool [(1, u "java/lang/Cloneable"), (0, .class_ 1), (0, u "java/lang/Object"), (0, .class_ 3)] 3

/-- java/lang/Cloneable -/
def k7 : Class := { plain "java/lang/Cloneable" (some 0) with
  accessFlags := 1537
  interfaces := #[]
  cf := some (fileOf pool7 2 #[] #[] 1537 4 #[] #[])
  fields := #[]
  methods := #[]
  instanceTypes := #[]
  staticTypes := #[]
  resolved := Array.replicate 8 none
  statics := none }

/-- the primitive boolean -/
def k8 : Class := { plain "boolean" none with kind := .primitive 'Z', accessFlags := 0x411 }
/-- [Z -/
def k9 : Class := { plain "[Z" (some 0) with kind := .array 8 .boolean, interfaces := #[7, 4], accessFlags := 1041 }

/-- the primitive byte -/
def k10 : Class := { plain "byte" none with kind := .primitive 'B', accessFlags := 0x411 }
/-- [B -/
def k11 : Class := { plain "[B" (some 0) with kind := .array 10 .byte, interfaces := #[7, 4], accessFlags := 1041 }

/-- the primitive int -/
def k12 : Class := { plain "int" none with kind := .primitive 'I', accessFlags := 0x411 }
/-- [I -/
def k13 : Class := { plain "[I" (some 0) with kind := .array 12 .int, interfaces := #[7, 4], accessFlags := 1041 }

def heap : Heap := #[{ cls := 6, slots := #[.ref 1, .ref 3, .ref 2, .null], vm := .statics 6 },
  { cls := 6, slots := #[.null, .int 0, .int 0], vm := .none },
  { cls := 6, slots := #[.null, .int 2, .int 0], vm := .none },
  { cls := 6, slots := #[.null, .int 1, .int 0], vm := .none }]
def classes : Array Class := #[k0, k1, k2, k3, k4, k5, k6, k7, k8, k9, k10, k11, k12, k13]
def interned : List (Array UInt16 × Addr) := []
def slotsUsed : Nat := 13
def theMethod : MethodId := ⟨1, 2⟩
def args0 : Array Value := #[.int 5, .int 5]
def aboutOver (below : List Frame) : State where
  vm := { classes := classes, interned := interned.toArray }
  heap := heap
  slotsUsed := slotsUsed
  threads := #[{ frames := .invoking theMethod args0 :: below }]
def below0 : List Frame := [.native { method := ⟨0, 0⟩, args := #[] }]
def about1 : State := aboutOver below0
def p0 : Program := .bare "" "" ""
def e0 : Env := launch0.env 0 0 0
theorem w_frames : about1.frames = Frame.invoking theMethod args0 :: below0 := rfl
set_option maxRecDepth 65536 in
theorem w_args : argsFit about1.vm theMethod args0 = true := by decide +kernel
set_option maxRecDepth 65536 in
theorem w_heap : heapFits about1 = true := by decide +kernel
set_option maxRecDepth 65536 in
theorem w_runnable : about1.curStatus? = some .runnable := by decide +kernel
set_option maxRecDepth 65536 in
theorem w_alone : about1.alone = true := by decide +kernel
set_option maxRecDepth 65536 in
theorem w_named : about1.methodNamed? x = some theMethod := by decide +kernel
set_option maxRecDepth 65536 in
theorem w_hears : about1.hears theMethod below0 = true := by decide +kernel
set_option maxRecDepth 65536 in
theorem w_ripe : about1.ripe theMethod args0 below0 = true := by decide +kernel
theorem w_running : about1.status = .running := rfl
set_option maxRecDepth 65536 in
theorem w_room : about1.hasRoom e0.platform room_1 = true :=
  launch0.hasRoom_least _ room_1 (by decide +kernel) (by decide +kernel) (by decide +kernel) (by decide +kernel) (by decide +kernel) (by decide +kernel)
theorem allAtoms_all (ts : List Jvm.Cond) (a : Array Jvm.Value) (st : Jvm.State) : (allAtoms ts).before a st = ts.all (fun c => c.before a st) := by
  induction ts with
  | nil => rfl
  | cons c t ih =>
    show (Jvm.Cond.and c (allAtoms t)).before a st = _
    rw [Jvm.Cond.before_and, ih, List.all_cons]
def words1 : List Jvm.Cond := Jvm.Cond.code x code maxLocals ret :: tables_1
/-- a 'code' word, met by the world's own term for the bytes: nothing is compared byte by byte -/
theorem code_word {y : MethodName} {bytes : ByteArray} {mx : Nat} {rt : Option FieldType} {a : Array Value} {s : State} {m : MethodId} {meth : Method} {c : Code} (h1 : s.methodNamed? y = some m) (h2 : s.vm.method? m = some meth) (h3 : meth.code = some c) (h4 : c.code = bytes)
    (h5 : (c.maxLocals == mx && c.exceptionTable.isEmpty && decide (c.maxStack ≤ mostOperands) && decide (meth.sig.returnType = rt) && !meth.locks && decide (parseMethodDescriptor y.desc = some meth.sig)) = true) : (Jvm.Cond.code y bytes mx rt).before a s = true := by
  simp only [Bool.and_eq_true, beq_iff_eq, Bool.not_eq_true', decide_eq_true_eq] at h5
  obtain ⟨⟨⟨⟨⟨g1, g2⟩, g3⟩, g4⟩, g5⟩, g6⟩ := h5
  simp [Cond.before, Cond.holds, Cond.value, h1, h2, h3, h4, g1, g2, g3, g4, g5, g6]
def isCode : Jvm.Cond → Bool
  | .code _ _ _ _ => true
  | _ => false
theorem all_split {L : List Jvm.Cond} {P : Jvm.Cond → Bool} (h1 : L.all (fun c => isCode c || P c) = true) (h2 : ∀ c ∈ L.filter isCode, P c = true) : L.all P = true := by
  refine List.all_eq_true.mpr fun c hc => ?_
  have h := List.all_eq_true.mp h1 c hc
  rcases Bool.eq_false_or_eq_true (isCode c) with hi | hi
  · exact h2 c (List.mem_filter.mpr ⟨hc, hi⟩)
  · simpa [hi] using h
set_option maxRecDepth 65536 in
theorem w_c0 : (Jvm.Cond.code x code maxLocals ret).before args0 about1 = true := code_word (m := ⟨1, 2⟩) (meth := k1m2) (c := k1c2) (by decide +kernel) rfl rfl rfl (by decide +kernel)
set_option maxRecDepth 65536 in
theorem w_c1 : (Jvm.Cond.code ({ cls := "com/example/gridlok/gridlok/model/LockModeCoversPinLaw", name := "mode", desc := "(I)Lcom/example/gridlok/gridlok/model/LockMode;" } : Jvm.MethodName) method_2_code (1 : Nat) (Option.some (Jvm.ClassFile.FieldType.object "com/example/gridlok/gridlok/model/LockMode"))).before args0 about1 = true := code_word (m := ⟨1, 1⟩) (meth := k1m1) (c := k1c1) (by decide +kernel) rfl rfl rfl (by decide +kernel)
set_option maxRecDepth 65536 in
theorem w_c2 : (Jvm.Cond.code ({ cls := "com/example/gridlok/gridlok/model/LockMode", name := "covers", desc := "(Lcom/example/gridlok/gridlok/model/LockMode;)Z" } : Jvm.MethodName) prog_9_method_5_code (2 : Nat) (Option.some Jvm.ClassFile.FieldType.boolean)).before args0 about1 = true := code_word (m := ⟨6, 0⟩) (meth := k6m0) (c := k6c0) (by decide +kernel) rfl rfl rfl (by decide +kernel)
def codes1 : List Jvm.Cond := [Jvm.Cond.code x code maxLocals ret, Jvm.Cond.code ({ cls := "com/example/gridlok/gridlok/model/LockModeCoversPinLaw", name := "mode", desc := "(I)Lcom/example/gridlok/gridlok/model/LockMode;" } : Jvm.MethodName) method_2_code (1 : Nat) (Option.some (Jvm.ClassFile.FieldType.object "com/example/gridlok/gridlok/model/LockMode")), Jvm.Cond.code ({ cls := "com/example/gridlok/gridlok/model/LockMode", name := "covers", desc := "(Lcom/example/gridlok/gridlok/model/LockMode;)Z" } : Jvm.MethodName) prog_9_method_5_code (2 : Nat) (Option.some Jvm.ClassFile.FieldType.boolean)]
set_option maxRecDepth 65536 in
theorem codes_eq : words1.filter isCode = codes1 := rfl
theorem w_codes : ∀ c ∈ words1.filter isCode, c.before args0 about1 = true := by
  rw [codes_eq]
  intro c hc
  simp only [codes1, List.mem_cons, List.not_mem_nil, or_false] at hc
  rcases hc with rfl | rfl | rfl
  · exact w_c0
  · exact w_c1
  · exact w_c2
set_option maxRecDepth 65536 in
theorem w_t1 : words1.all (fun c => isCode c || c.before args0 about1) = true := by decide +kernel
theorem w_tables : (allAtoms (Jvm.Cond.code x code maxLocals ret :: tables_1)).before args0 about1 = true := by
  rw [allAtoms_all]
  show words1.all (fun c => c.before args0 about1) = true
  refine all_split ?_ w_codes
  rw [w_t1]
set_option maxRecDepth 65536 in
theorem w_case : (Jvm.Cond.and given_1 narrow_1).before args0 about1 = true := by decide +kernel
theorem w_applies : (headSpec (Jvm.Cond.code x code maxLocals ret :: tables_1) room_1).applies x e0.platform about1 = true :=
  (Spec.applies_iff w_frames).mpr ⟨w_running, w_runnable, w_alone, w_named, w_hears, w_ripe, w_room, w_tables⟩
theorem atStart : AtStart classFile x code maxLocals ret World_1 tables_1 room_1 Calls_1 rest_1 Pre_1 launch0 p0 e0 about1 theMethod args0 below0 :=
  ⟨lists_1, trivial, launch0.admits_env _ _ _, launch0.least_env, fairChoices_fair.cas, fairChoices_fair.clock, w_frames, w_args, w_heap, w_applies, trivial, trivial, w_case⟩
end start1
theorem witness_1 : WitnessClaimed_1 := ⟨start1.p0, start1.e0, start1.about1, start1.theMethod, start1.args0, start1.below0, start1.atStart⟩
end Jvm.Pilot.@@N@@

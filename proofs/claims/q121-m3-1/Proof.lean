import JvmDerived
import JvmDerived.Pilot.@@N@@Statement
import JvmDerived.Pilot.@@N@@Code
set_option linter.unusedVariables false
set_option linter.unusedSimpArgs false
namespace Jvm.RoadKit
open Sem ClassFile Op Lib Jvm.Stand Jvm.Free Jvm.LawKit
section New
variable {p : Program} {l : Launch} {e : Env} {R : Room} {s : State} {m : MethodId} {args : Array Value} {below : List Frame} {meth : Method} {c : Code} {T : State} {locs : List Loc} {cells slots : Nat}
theorem retI (X : Stand p l e R s m args below meth c T locs cells slots) (hx : p.tables.exec = Jvm.exec) {pc : Nat} {Ls : Array Slot} {z : Int32} {rest : List Value} (hret : meth.sig.returnType = some .int) (hd : decode c.code pc = .ok (.ireturn, 1)) {fs : List Frame}
    (hl : ∀ (f : JFrame) (acts : List Action), f.method = m → f.locked = none → f.entered = [] → (doReturn e (T.setTop f) acts (some (.int z))).1 = T.setFrames fs) : Steps p.tables e below (T.setTop (mkF m pc Ls (.int z :: rest))) (T.setFrames fs) := by
  have hm' : T.vm.method? m = some meth := X.method'
  have hn : narrow .int (.int z) = .int z := rfl
  show Steps p.tables e below (T.setTop { method := m, pc := pc, locals := Ls, stack := _ :: rest, locked := none }) _
  jvm_step X.here [X.here.top, hx, hd, hm', hret, hn]
  first | (intro acts; rw [hl _ acts rfl rfl rfl]) | rw [hl _ _ rfl rfl rfl]
  exact Steps.refl _
end New
end Jvm.RoadKit
namespace Jvm.Pilot.@@N@@
open Jvm Jvm.ClassFile Sem Op Lib Jvm.Free Jvm.Stand Jvm.LawKit Jvm.RoadKit Bundle Jvm.Pilot.@@N@@.Jvm.D
theorem own_lit {r c : Int32} {v : Int} (e : c.toInt = v) (h : r.toInt = v) : r = c := Int32.toInt_inj.mp (h.trans e.symm)
theorem own_eqi {args : Array Value} {first s : State} {o : Option Outcome} {idx : List Nat} {t : Jvm.Term} {n : Int32} (h : (Jvm.Cond.eq t (Jvm.Term.int n)).value args first o s idx = some true) : t.eval args first o idx s = some (.int n) := by
  obtain ⟨x, y, h1, h2, h3, -⟩ := cmp_v (Or.inl h)
  have h4 := h2.symm.trans (Term.int_eval n)
  cases h4
  cases x with
  | int i => have h5 := gotT (Cond.eq_ints h1 h2) h; rw [h1, h5]
  | _ => first | (obtain ⟨z, hz⟩ := h3; cases hz; done) | exact absurd h3.2 (by simp [Value.isRef])
def own_Q (w : Value) (h0 : Heap) (n0 : Nat) (v : Option Value) (h : Heap) (L : List Loc) : Prop := v = some w ∧ Fr n0 L ∧ h = h0
theorem own_split0 (p0 : Int32) : ((p0 &&& (2147483647 : Int32)) % (10 : Int32)) = (0 : Int32) ∨ ((p0 &&& (2147483647 : Int32)) % (10 : Int32)) = (1 : Int32) ∨ ((p0 &&& (2147483647 : Int32)) % (10 : Int32)) = (2 : Int32) ∨ ((p0 &&& (2147483647 : Int32)) % (10 : Int32)) = (3 : Int32) ∨ ((p0 &&& (2147483647 : Int32)) % (10 : Int32)) = (4 : Int32) ∨ ((p0 &&& (2147483647 : Int32)) % (10 : Int32)) = (5 : Int32) ∨ ((p0 &&& (2147483647 : Int32)) % (10 : Int32)) = (6 : Int32) ∨ ((p0 &&& (2147483647 : Int32)) % (10 : Int32)) = (7 : Int32) ∨ ((p0 &&& (2147483647 : Int32)) % (10 : Int32)) = (8 : Int32) ∨ ((p0 &&& (2147483647 : Int32)) % (10 : Int32)) = (9 : Int32) := by
  have h1 := c_mask p0 (2147483647 : Int32) 31 (by decide) (by decide)
  have h0 : 0 ≤ (p0 &&& (2147483647 : Int32)).toInt := by rw [h1]; exact Int.emod_nonneg _ (by decide)
  have h2 := (c_irem (p0 &&& (2147483647 : Int32)) (10 : Int32) 10 rfl).1 h0
  have h3 : ((p0 &&& (2147483647 : Int32)) % (10 : Int32)).toInt = 0 ∨ ((p0 &&& (2147483647 : Int32)) % (10 : Int32)).toInt = 1 ∨ ((p0 &&& (2147483647 : Int32)) % (10 : Int32)).toInt = 2 ∨ ((p0 &&& (2147483647 : Int32)) % (10 : Int32)).toInt = 3 ∨ ((p0 &&& (2147483647 : Int32)) % (10 : Int32)).toInt = 4 ∨ ((p0 &&& (2147483647 : Int32)) % (10 : Int32)).toInt = 5 ∨ ((p0 &&& (2147483647 : Int32)) % (10 : Int32)).toInt = 6 ∨ ((p0 &&& (2147483647 : Int32)) % (10 : Int32)).toInt = 7 ∨ ((p0 &&& (2147483647 : Int32)) % (10 : Int32)).toInt = 8 ∨ ((p0 &&& (2147483647 : Int32)) % (10 : Int32)).toInt = 9 := by omega
  rcases h3 with h | h | h | h | h | h | h | h | h | h
  · exact Or.inl (own_lit rfl h)
  · exact Or.inr (Or.inl (own_lit rfl h))
  · exact Or.inr (Or.inr (Or.inl (own_lit rfl h)))
  · exact Or.inr (Or.inr (Or.inr (Or.inl (own_lit rfl h))))
  · exact Or.inr (Or.inr (Or.inr (Or.inr (Or.inl (own_lit rfl h)))))
  · exact Or.inr (Or.inr (Or.inr (Or.inr (Or.inr (Or.inl (own_lit rfl h))))))
  · exact Or.inr (Or.inr (Or.inr (Or.inr (Or.inr (Or.inr (Or.inl (own_lit rfl h)))))))
  · exact Or.inr (Or.inr (Or.inr (Or.inr (Or.inr (Or.inr (Or.inr (Or.inl (own_lit rfl h))))))))
  · exact Or.inr (Or.inr (Or.inr (Or.inr (Or.inr (Or.inr (Or.inr (Or.inr (Or.inl (own_lit rfl h)))))))))
  · exact Or.inr (Or.inr (Or.inr (Or.inr (Or.inr (Or.inr (Or.inr (Or.inr (Or.inr (own_lit rfl h)))))))))
def Facts (Z : State) (h : Heap) (a_ONE a_SET a_OPTIONAL a_ARRAY a_INT a_LIST a_BOOLEAN a_NOTHING a_STREAM a_LONG : Addr) : Prop :=
  Sta Z h "com/example/querywright/querywright/derived/ResultShape" "ONE" "Lcom/example/querywright/querywright/derived/ResultShape;" (.ref a_ONE) ∧
  Exa Z h a_ONE "com/example/querywright/querywright/derived/ResultShape" ∧
  Fld Z h a_ONE "java/lang/Enum" "ordinal" "I" (.int (0 : Int32)) ∧
  Sta Z h "com/example/querywright/querywright/derived/ResultShape" "SET" "Lcom/example/querywright/querywright/derived/ResultShape;" (.ref a_SET) ∧
  Exa Z h a_SET "com/example/querywright/querywright/derived/ResultShape" ∧
  Fld Z h a_SET "java/lang/Enum" "ordinal" "I" (.int (3 : Int32)) ∧
  Sta Z h "com/example/querywright/querywright/derived/ResultShape" "OPTIONAL" "Lcom/example/querywright/querywright/derived/ResultShape;" (.ref a_OPTIONAL) ∧
  Exa Z h a_OPTIONAL "com/example/querywright/querywright/derived/ResultShape" ∧
  Fld Z h a_OPTIONAL "java/lang/Enum" "ordinal" "I" (.int (1 : Int32)) ∧
  Sta Z h "com/example/querywright/querywright/derived/ResultShape" "ARRAY" "Lcom/example/querywright/querywright/derived/ResultShape;" (.ref a_ARRAY) ∧
  Exa Z h a_ARRAY "com/example/querywright/querywright/derived/ResultShape" ∧
  Fld Z h a_ARRAY "java/lang/Enum" "ordinal" "I" (.int (4 : Int32)) ∧
  Sta Z h "com/example/querywright/querywright/derived/ResultShape" "INT" "Lcom/example/querywright/querywright/derived/ResultShape;" (.ref a_INT) ∧
  Exa Z h a_INT "com/example/querywright/querywright/derived/ResultShape" ∧
  Fld Z h a_INT "java/lang/Enum" "ordinal" "I" (.int (7 : Int32)) ∧
  Sta Z h "com/example/querywright/querywright/derived/ResultShape" "LIST" "Lcom/example/querywright/querywright/derived/ResultShape;" (.ref a_LIST) ∧
  Exa Z h a_LIST "com/example/querywright/querywright/derived/ResultShape" ∧
  Fld Z h a_LIST "java/lang/Enum" "ordinal" "I" (.int (2 : Int32)) ∧
  Sta Z h "com/example/querywright/querywright/derived/ResultShape" "BOOLEAN" "Lcom/example/querywright/querywright/derived/ResultShape;" (.ref a_BOOLEAN) ∧
  Exa Z h a_BOOLEAN "com/example/querywright/querywright/derived/ResultShape" ∧
  Fld Z h a_BOOLEAN "java/lang/Enum" "ordinal" "I" (.int (8 : Int32)) ∧
  Sta Z h "com/example/querywright/querywright/derived/ResultShape" "NOTHING" "Lcom/example/querywright/querywright/derived/ResultShape;" (.ref a_NOTHING) ∧
  Exa Z h a_NOTHING "com/example/querywright/querywright/derived/ResultShape" ∧
  Fld Z h a_NOTHING "java/lang/Enum" "ordinal" "I" (.int (9 : Int32)) ∧
  Sta Z h "com/example/querywright/querywright/derived/ResultShape" "STREAM" "Lcom/example/querywright/querywright/derived/ResultShape;" (.ref a_STREAM) ∧
  Exa Z h a_STREAM "com/example/querywright/querywright/derived/ResultShape" ∧
  Fld Z h a_STREAM "java/lang/Enum" "ordinal" "I" (.int (5 : Int32)) ∧
  Sta Z h "com/example/querywright/querywright/derived/ResultShape" "LONG" "Lcom/example/querywright/querywright/derived/ResultShape;" (.ref a_LONG) ∧
  Exa Z h a_LONG "com/example/querywright/querywright/derived/ResultShape" ∧
  Fld Z h a_LONG "java/lang/Enum" "ordinal" "I" (.int (6 : Int32))
theorem fx_S_ONE {Z : State} {h : Heap} {a_ONE a_SET a_OPTIONAL a_ARRAY a_INT a_LIST a_BOOLEAN a_NOTHING a_STREAM a_LONG : Addr} (F : Facts Z h a_ONE a_SET a_OPTIONAL a_ARRAY a_INT a_LIST a_BOOLEAN a_NOTHING a_STREAM a_LONG) : Sta Z h "com/example/querywright/querywright/derived/ResultShape" "ONE" "Lcom/example/querywright/querywright/derived/ResultShape;" (.ref a_ONE) := F.1
theorem fx_E_ONE {Z : State} {h : Heap} {a_ONE a_SET a_OPTIONAL a_ARRAY a_INT a_LIST a_BOOLEAN a_NOTHING a_STREAM a_LONG : Addr} (F : Facts Z h a_ONE a_SET a_OPTIONAL a_ARRAY a_INT a_LIST a_BOOLEAN a_NOTHING a_STREAM a_LONG) : Exa Z h a_ONE "com/example/querywright/querywright/derived/ResultShape" := F.2.1
theorem fx_F_ONE_ordinal {Z : State} {h : Heap} {a_ONE a_SET a_OPTIONAL a_ARRAY a_INT a_LIST a_BOOLEAN a_NOTHING a_STREAM a_LONG : Addr} (F : Facts Z h a_ONE a_SET a_OPTIONAL a_ARRAY a_INT a_LIST a_BOOLEAN a_NOTHING a_STREAM a_LONG) : Fld Z h a_ONE "java/lang/Enum" "ordinal" "I" (.int (0 : Int32)) := F.2.2.1
theorem fx_S_SET {Z : State} {h : Heap} {a_ONE a_SET a_OPTIONAL a_ARRAY a_INT a_LIST a_BOOLEAN a_NOTHING a_STREAM a_LONG : Addr} (F : Facts Z h a_ONE a_SET a_OPTIONAL a_ARRAY a_INT a_LIST a_BOOLEAN a_NOTHING a_STREAM a_LONG) : Sta Z h "com/example/querywright/querywright/derived/ResultShape" "SET" "Lcom/example/querywright/querywright/derived/ResultShape;" (.ref a_SET) := F.2.2.2.1
theorem fx_E_SET {Z : State} {h : Heap} {a_ONE a_SET a_OPTIONAL a_ARRAY a_INT a_LIST a_BOOLEAN a_NOTHING a_STREAM a_LONG : Addr} (F : Facts Z h a_ONE a_SET a_OPTIONAL a_ARRAY a_INT a_LIST a_BOOLEAN a_NOTHING a_STREAM a_LONG) : Exa Z h a_SET "com/example/querywright/querywright/derived/ResultShape" := F.2.2.2.2.1
theorem fx_F_SET_ordinal {Z : State} {h : Heap} {a_ONE a_SET a_OPTIONAL a_ARRAY a_INT a_LIST a_BOOLEAN a_NOTHING a_STREAM a_LONG : Addr} (F : Facts Z h a_ONE a_SET a_OPTIONAL a_ARRAY a_INT a_LIST a_BOOLEAN a_NOTHING a_STREAM a_LONG) : Fld Z h a_SET "java/lang/Enum" "ordinal" "I" (.int (3 : Int32)) := F.2.2.2.2.2.1
theorem fx_S_OPTIONAL {Z : State} {h : Heap} {a_ONE a_SET a_OPTIONAL a_ARRAY a_INT a_LIST a_BOOLEAN a_NOTHING a_STREAM a_LONG : Addr} (F : Facts Z h a_ONE a_SET a_OPTIONAL a_ARRAY a_INT a_LIST a_BOOLEAN a_NOTHING a_STREAM a_LONG) : Sta Z h "com/example/querywright/querywright/derived/ResultShape" "OPTIONAL" "Lcom/example/querywright/querywright/derived/ResultShape;" (.ref a_OPTIONAL) := F.2.2.2.2.2.2.1
theorem fx_E_OPTIONAL {Z : State} {h : Heap} {a_ONE a_SET a_OPTIONAL a_ARRAY a_INT a_LIST a_BOOLEAN a_NOTHING a_STREAM a_LONG : Addr} (F : Facts Z h a_ONE a_SET a_OPTIONAL a_ARRAY a_INT a_LIST a_BOOLEAN a_NOTHING a_STREAM a_LONG) : Exa Z h a_OPTIONAL "com/example/querywright/querywright/derived/ResultShape" := F.2.2.2.2.2.2.2.1
theorem fx_F_OPTIONAL_ordinal {Z : State} {h : Heap} {a_ONE a_SET a_OPTIONAL a_ARRAY a_INT a_LIST a_BOOLEAN a_NOTHING a_STREAM a_LONG : Addr} (F : Facts Z h a_ONE a_SET a_OPTIONAL a_ARRAY a_INT a_LIST a_BOOLEAN a_NOTHING a_STREAM a_LONG) : Fld Z h a_OPTIONAL "java/lang/Enum" "ordinal" "I" (.int (1 : Int32)) := F.2.2.2.2.2.2.2.2.1
theorem fx_S_ARRAY {Z : State} {h : Heap} {a_ONE a_SET a_OPTIONAL a_ARRAY a_INT a_LIST a_BOOLEAN a_NOTHING a_STREAM a_LONG : Addr} (F : Facts Z h a_ONE a_SET a_OPTIONAL a_ARRAY a_INT a_LIST a_BOOLEAN a_NOTHING a_STREAM a_LONG) : Sta Z h "com/example/querywright/querywright/derived/ResultShape" "ARRAY" "Lcom/example/querywright/querywright/derived/ResultShape;" (.ref a_ARRAY) := F.2.2.2.2.2.2.2.2.2.1
theorem fx_E_ARRAY {Z : State} {h : Heap} {a_ONE a_SET a_OPTIONAL a_ARRAY a_INT a_LIST a_BOOLEAN a_NOTHING a_STREAM a_LONG : Addr} (F : Facts Z h a_ONE a_SET a_OPTIONAL a_ARRAY a_INT a_LIST a_BOOLEAN a_NOTHING a_STREAM a_LONG) : Exa Z h a_ARRAY "com/example/querywright/querywright/derived/ResultShape" := F.2.2.2.2.2.2.2.2.2.2.1
theorem fx_F_ARRAY_ordinal {Z : State} {h : Heap} {a_ONE a_SET a_OPTIONAL a_ARRAY a_INT a_LIST a_BOOLEAN a_NOTHING a_STREAM a_LONG : Addr} (F : Facts Z h a_ONE a_SET a_OPTIONAL a_ARRAY a_INT a_LIST a_BOOLEAN a_NOTHING a_STREAM a_LONG) : Fld Z h a_ARRAY "java/lang/Enum" "ordinal" "I" (.int (4 : Int32)) := F.2.2.2.2.2.2.2.2.2.2.2.1
theorem fx_S_INT {Z : State} {h : Heap} {a_ONE a_SET a_OPTIONAL a_ARRAY a_INT a_LIST a_BOOLEAN a_NOTHING a_STREAM a_LONG : Addr} (F : Facts Z h a_ONE a_SET a_OPTIONAL a_ARRAY a_INT a_LIST a_BOOLEAN a_NOTHING a_STREAM a_LONG) : Sta Z h "com/example/querywright/querywright/derived/ResultShape" "INT" "Lcom/example/querywright/querywright/derived/ResultShape;" (.ref a_INT) := F.2.2.2.2.2.2.2.2.2.2.2.2.1
theorem fx_E_INT {Z : State} {h : Heap} {a_ONE a_SET a_OPTIONAL a_ARRAY a_INT a_LIST a_BOOLEAN a_NOTHING a_STREAM a_LONG : Addr} (F : Facts Z h a_ONE a_SET a_OPTIONAL a_ARRAY a_INT a_LIST a_BOOLEAN a_NOTHING a_STREAM a_LONG) : Exa Z h a_INT "com/example/querywright/querywright/derived/ResultShape" := F.2.2.2.2.2.2.2.2.2.2.2.2.2.1
theorem fx_F_INT_ordinal {Z : State} {h : Heap} {a_ONE a_SET a_OPTIONAL a_ARRAY a_INT a_LIST a_BOOLEAN a_NOTHING a_STREAM a_LONG : Addr} (F : Facts Z h a_ONE a_SET a_OPTIONAL a_ARRAY a_INT a_LIST a_BOOLEAN a_NOTHING a_STREAM a_LONG) : Fld Z h a_INT "java/lang/Enum" "ordinal" "I" (.int (7 : Int32)) := F.2.2.2.2.2.2.2.2.2.2.2.2.2.2.1
theorem fx_S_LIST {Z : State} {h : Heap} {a_ONE a_SET a_OPTIONAL a_ARRAY a_INT a_LIST a_BOOLEAN a_NOTHING a_STREAM a_LONG : Addr} (F : Facts Z h a_ONE a_SET a_OPTIONAL a_ARRAY a_INT a_LIST a_BOOLEAN a_NOTHING a_STREAM a_LONG) : Sta Z h "com/example/querywright/querywright/derived/ResultShape" "LIST" "Lcom/example/querywright/querywright/derived/ResultShape;" (.ref a_LIST) := F.2.2.2.2.2.2.2.2.2.2.2.2.2.2.2.1
theorem fx_E_LIST {Z : State} {h : Heap} {a_ONE a_SET a_OPTIONAL a_ARRAY a_INT a_LIST a_BOOLEAN a_NOTHING a_STREAM a_LONG : Addr} (F : Facts Z h a_ONE a_SET a_OPTIONAL a_ARRAY a_INT a_LIST a_BOOLEAN a_NOTHING a_STREAM a_LONG) : Exa Z h a_LIST "com/example/querywright/querywright/derived/ResultShape" := F.2.2.2.2.2.2.2.2.2.2.2.2.2.2.2.2.1
theorem fx_F_LIST_ordinal {Z : State} {h : Heap} {a_ONE a_SET a_OPTIONAL a_ARRAY a_INT a_LIST a_BOOLEAN a_NOTHING a_STREAM a_LONG : Addr} (F : Facts Z h a_ONE a_SET a_OPTIONAL a_ARRAY a_INT a_LIST a_BOOLEAN a_NOTHING a_STREAM a_LONG) : Fld Z h a_LIST "java/lang/Enum" "ordinal" "I" (.int (2 : Int32)) := F.2.2.2.2.2.2.2.2.2.2.2.2.2.2.2.2.2.1
theorem fx_S_BOOLEAN {Z : State} {h : Heap} {a_ONE a_SET a_OPTIONAL a_ARRAY a_INT a_LIST a_BOOLEAN a_NOTHING a_STREAM a_LONG : Addr} (F : Facts Z h a_ONE a_SET a_OPTIONAL a_ARRAY a_INT a_LIST a_BOOLEAN a_NOTHING a_STREAM a_LONG) : Sta Z h "com/example/querywright/querywright/derived/ResultShape" "BOOLEAN" "Lcom/example/querywright/querywright/derived/ResultShape;" (.ref a_BOOLEAN) := F.2.2.2.2.2.2.2.2.2.2.2.2.2.2.2.2.2.2.1
theorem fx_E_BOOLEAN {Z : State} {h : Heap} {a_ONE a_SET a_OPTIONAL a_ARRAY a_INT a_LIST a_BOOLEAN a_NOTHING a_STREAM a_LONG : Addr} (F : Facts Z h a_ONE a_SET a_OPTIONAL a_ARRAY a_INT a_LIST a_BOOLEAN a_NOTHING a_STREAM a_LONG) : Exa Z h a_BOOLEAN "com/example/querywright/querywright/derived/ResultShape" := F.2.2.2.2.2.2.2.2.2.2.2.2.2.2.2.2.2.2.2.1
theorem fx_F_BOOLEAN_ordinal {Z : State} {h : Heap} {a_ONE a_SET a_OPTIONAL a_ARRAY a_INT a_LIST a_BOOLEAN a_NOTHING a_STREAM a_LONG : Addr} (F : Facts Z h a_ONE a_SET a_OPTIONAL a_ARRAY a_INT a_LIST a_BOOLEAN a_NOTHING a_STREAM a_LONG) : Fld Z h a_BOOLEAN "java/lang/Enum" "ordinal" "I" (.int (8 : Int32)) := F.2.2.2.2.2.2.2.2.2.2.2.2.2.2.2.2.2.2.2.2.1
theorem fx_S_NOTHING {Z : State} {h : Heap} {a_ONE a_SET a_OPTIONAL a_ARRAY a_INT a_LIST a_BOOLEAN a_NOTHING a_STREAM a_LONG : Addr} (F : Facts Z h a_ONE a_SET a_OPTIONAL a_ARRAY a_INT a_LIST a_BOOLEAN a_NOTHING a_STREAM a_LONG) : Sta Z h "com/example/querywright/querywright/derived/ResultShape" "NOTHING" "Lcom/example/querywright/querywright/derived/ResultShape;" (.ref a_NOTHING) := F.2.2.2.2.2.2.2.2.2.2.2.2.2.2.2.2.2.2.2.2.2.1
theorem fx_E_NOTHING {Z : State} {h : Heap} {a_ONE a_SET a_OPTIONAL a_ARRAY a_INT a_LIST a_BOOLEAN a_NOTHING a_STREAM a_LONG : Addr} (F : Facts Z h a_ONE a_SET a_OPTIONAL a_ARRAY a_INT a_LIST a_BOOLEAN a_NOTHING a_STREAM a_LONG) : Exa Z h a_NOTHING "com/example/querywright/querywright/derived/ResultShape" := F.2.2.2.2.2.2.2.2.2.2.2.2.2.2.2.2.2.2.2.2.2.2.1
theorem fx_F_NOTHING_ordinal {Z : State} {h : Heap} {a_ONE a_SET a_OPTIONAL a_ARRAY a_INT a_LIST a_BOOLEAN a_NOTHING a_STREAM a_LONG : Addr} (F : Facts Z h a_ONE a_SET a_OPTIONAL a_ARRAY a_INT a_LIST a_BOOLEAN a_NOTHING a_STREAM a_LONG) : Fld Z h a_NOTHING "java/lang/Enum" "ordinal" "I" (.int (9 : Int32)) := F.2.2.2.2.2.2.2.2.2.2.2.2.2.2.2.2.2.2.2.2.2.2.2.1
theorem fx_S_STREAM {Z : State} {h : Heap} {a_ONE a_SET a_OPTIONAL a_ARRAY a_INT a_LIST a_BOOLEAN a_NOTHING a_STREAM a_LONG : Addr} (F : Facts Z h a_ONE a_SET a_OPTIONAL a_ARRAY a_INT a_LIST a_BOOLEAN a_NOTHING a_STREAM a_LONG) : Sta Z h "com/example/querywright/querywright/derived/ResultShape" "STREAM" "Lcom/example/querywright/querywright/derived/ResultShape;" (.ref a_STREAM) := F.2.2.2.2.2.2.2.2.2.2.2.2.2.2.2.2.2.2.2.2.2.2.2.2.1
theorem fx_E_STREAM {Z : State} {h : Heap} {a_ONE a_SET a_OPTIONAL a_ARRAY a_INT a_LIST a_BOOLEAN a_NOTHING a_STREAM a_LONG : Addr} (F : Facts Z h a_ONE a_SET a_OPTIONAL a_ARRAY a_INT a_LIST a_BOOLEAN a_NOTHING a_STREAM a_LONG) : Exa Z h a_STREAM "com/example/querywright/querywright/derived/ResultShape" := F.2.2.2.2.2.2.2.2.2.2.2.2.2.2.2.2.2.2.2.2.2.2.2.2.2.1
theorem fx_F_STREAM_ordinal {Z : State} {h : Heap} {a_ONE a_SET a_OPTIONAL a_ARRAY a_INT a_LIST a_BOOLEAN a_NOTHING a_STREAM a_LONG : Addr} (F : Facts Z h a_ONE a_SET a_OPTIONAL a_ARRAY a_INT a_LIST a_BOOLEAN a_NOTHING a_STREAM a_LONG) : Fld Z h a_STREAM "java/lang/Enum" "ordinal" "I" (.int (5 : Int32)) := F.2.2.2.2.2.2.2.2.2.2.2.2.2.2.2.2.2.2.2.2.2.2.2.2.2.2.1
theorem fx_S_LONG {Z : State} {h : Heap} {a_ONE a_SET a_OPTIONAL a_ARRAY a_INT a_LIST a_BOOLEAN a_NOTHING a_STREAM a_LONG : Addr} (F : Facts Z h a_ONE a_SET a_OPTIONAL a_ARRAY a_INT a_LIST a_BOOLEAN a_NOTHING a_STREAM a_LONG) : Sta Z h "com/example/querywright/querywright/derived/ResultShape" "LONG" "Lcom/example/querywright/querywright/derived/ResultShape;" (.ref a_LONG) := F.2.2.2.2.2.2.2.2.2.2.2.2.2.2.2.2.2.2.2.2.2.2.2.2.2.2.2.1
theorem fx_E_LONG {Z : State} {h : Heap} {a_ONE a_SET a_OPTIONAL a_ARRAY a_INT a_LIST a_BOOLEAN a_NOTHING a_STREAM a_LONG : Addr} (F : Facts Z h a_ONE a_SET a_OPTIONAL a_ARRAY a_INT a_LIST a_BOOLEAN a_NOTHING a_STREAM a_LONG) : Exa Z h a_LONG "com/example/querywright/querywright/derived/ResultShape" := F.2.2.2.2.2.2.2.2.2.2.2.2.2.2.2.2.2.2.2.2.2.2.2.2.2.2.2.2.1
theorem fx_F_LONG_ordinal {Z : State} {h : Heap} {a_ONE a_SET a_OPTIONAL a_ARRAY a_INT a_LIST a_BOOLEAN a_NOTHING a_STREAM a_LONG : Addr} (F : Facts Z h a_ONE a_SET a_OPTIONAL a_ARRAY a_INT a_LIST a_BOOLEAN a_NOTHING a_STREAM a_LONG) : Fld Z h a_LONG "java/lang/Enum" "ordinal" "I" (.int (6 : Int32)) := F.2.2.2.2.2.2.2.2.2.2.2.2.2.2.2.2.2.2.2.2.2.2.2.2.2.2.2.2.2
theorem Facts.ext {Z : State} {h h' : Heap} {a_ONE a_SET a_OPTIONAL a_ARRAY a_INT a_LIST a_BOOLEAN a_NOTHING a_STREAM a_LONG : Addr} (F : Facts Z h a_ONE a_SET a_OPTIONAL a_ARRAY a_INT a_LIST a_BOOLEAN a_NOTHING a_STREAM a_LONG) (E : Ext h h') : Facts Z h' a_ONE a_SET a_OPTIONAL a_ARRAY a_INT a_LIST a_BOOLEAN a_NOTHING a_STREAM a_LONG := ⟨Sta.ext E (fx_S_ONE F), Exa.ext E (fx_E_ONE F), Fld.ext E (fx_F_ONE_ordinal F), Sta.ext E (fx_S_SET F), Exa.ext E (fx_E_SET F), Fld.ext E (fx_F_SET_ordinal F), Sta.ext E (fx_S_OPTIONAL F), Exa.ext E (fx_E_OPTIONAL F), Fld.ext E (fx_F_OPTIONAL_ordinal F), Sta.ext E (fx_S_ARRAY F), Exa.ext E (fx_E_ARRAY F), Fld.ext E (fx_F_ARRAY_ordinal F), Sta.ext E (fx_S_INT F), Exa.ext E (fx_E_INT F), Fld.ext E (fx_F_INT_ordinal F), Sta.ext E (fx_S_LIST F), Exa.ext E (fx_E_LIST F), Fld.ext E (fx_F_LIST_ordinal F), Sta.ext E (fx_S_BOOLEAN F), Exa.ext E (fx_E_BOOLEAN F), Fld.ext E (fx_F_BOOLEAN_ordinal F), Sta.ext E (fx_S_NOTHING F), Exa.ext E (fx_E_NOTHING F), Fld.ext E (fx_F_NOTHING_ordinal F), Sta.ext E (fx_S_STREAM F), Exa.ext E (fx_E_STREAM F), Fld.ext E (fx_F_STREAM_ordinal F), Sta.ext E (fx_S_LONG F), Exa.ext E (fx_E_LONG F), Fld.ext E (fx_F_LONG_ordinal F)⟩
theorem Facts.wr {Z : State} {h h' : Heap} {a_ONE a_SET a_OPTIONAL a_ARRAY a_INT a_LIST a_BOOLEAN a_NOTHING a_STREAM a_LONG : Addr} {h0 : Heap} {b : Addr} {sl : Nat} {v : Value} (F0 : Facts Z h0 a_ONE a_SET a_OPTIONAL a_ARRAY a_INT a_LIST a_BOOLEAN a_NOTHING a_STREAM a_LONG) (F : Facts Z h a_ONE a_SET a_OPTIONAL a_ARRAY a_INT a_LIST a_BOOLEAN a_NOTHING a_STREAM a_LONG) (W : Wr h h' b sl v) (q : h0.size ≤ b) : Facts Z h' a_ONE a_SET a_OPTIONAL a_ARRAY a_INT a_LIST a_BOOLEAN a_NOTHING a_STREAM a_LONG := ⟨Sta.wr W (fx_S_ONE F), Exa.wr W (fx_E_ONE F), Fld.other W (fx_F_ONE_ordinal F) (Or.inl (Nat.ne_of_lt (Nat.lt_of_lt_of_le (fx_E_ONE F0).lt q))), Sta.wr W (fx_S_SET F), Exa.wr W (fx_E_SET F), Fld.other W (fx_F_SET_ordinal F) (Or.inl (Nat.ne_of_lt (Nat.lt_of_lt_of_le (fx_E_SET F0).lt q))), Sta.wr W (fx_S_OPTIONAL F), Exa.wr W (fx_E_OPTIONAL F), Fld.other W (fx_F_OPTIONAL_ordinal F) (Or.inl (Nat.ne_of_lt (Nat.lt_of_lt_of_le (fx_E_OPTIONAL F0).lt q))), Sta.wr W (fx_S_ARRAY F), Exa.wr W (fx_E_ARRAY F), Fld.other W (fx_F_ARRAY_ordinal F) (Or.inl (Nat.ne_of_lt (Nat.lt_of_lt_of_le (fx_E_ARRAY F0).lt q))), Sta.wr W (fx_S_INT F), Exa.wr W (fx_E_INT F), Fld.other W (fx_F_INT_ordinal F) (Or.inl (Nat.ne_of_lt (Nat.lt_of_lt_of_le (fx_E_INT F0).lt q))), Sta.wr W (fx_S_LIST F), Exa.wr W (fx_E_LIST F), Fld.other W (fx_F_LIST_ordinal F) (Or.inl (Nat.ne_of_lt (Nat.lt_of_lt_of_le (fx_E_LIST F0).lt q))), Sta.wr W (fx_S_BOOLEAN F), Exa.wr W (fx_E_BOOLEAN F), Fld.other W (fx_F_BOOLEAN_ordinal F) (Or.inl (Nat.ne_of_lt (Nat.lt_of_lt_of_le (fx_E_BOOLEAN F0).lt q))), Sta.wr W (fx_S_NOTHING F), Exa.wr W (fx_E_NOTHING F), Fld.other W (fx_F_NOTHING_ordinal F) (Or.inl (Nat.ne_of_lt (Nat.lt_of_lt_of_le (fx_E_NOTHING F0).lt q))), Sta.wr W (fx_S_STREAM F), Exa.wr W (fx_E_STREAM F), Fld.other W (fx_F_STREAM_ordinal F) (Or.inl (Nat.ne_of_lt (Nat.lt_of_lt_of_le (fx_E_STREAM F0).lt q))), Sta.wr W (fx_S_LONG F), Exa.wr W (fx_E_LONG F), Fld.other W (fx_F_LONG_ordinal F) (Or.inl (Nat.ne_of_lt (Nat.lt_of_lt_of_le (fx_E_LONG F0).lt q)))⟩
theorem pn_0 : plainName "com/example/querywright/querywright/derived/ResultShapeHoldsRowsPinLaw" = true := by first | (simp [plainName, overriddenIn]; done) | decide +kernel
theorem ef_0 (m : MethodId) (x0 : Int32) : entryFrame m #[(.int x0)] maxLocals = mkF m 0 #[.val (.int x0), .unset, .unset, .unset, .unset] [] := by first | (simp [entryFrame, mkF, argsToLocals, Value.category, maxLocals]; done) | rfl
theorem d1_0 : decode prog_24_method_6_code 0 = .ok (.aload_n 0, 1) := by decide +kernel
theorem d1_1 : decode prog_24_method_6_code 1 = .ok (.invokevirtual 77, 3) := by decide +kernel
theorem d1_4 : decode prog_24_method_6_code 4 = .ok (.tableswitch 56 0 9 #[66, 66, 66, 66, 66, 66, 70, 70, 70, 70], 56) := by decide +kernel
theorem d1_70 : decode prog_24_method_6_code 70 = .ok (.iconst 1, 1) := by decide +kernel
theorem d1_71 : decode prog_24_method_6_code 71 = .ok (.goto 4, 3) := by decide +kernel
theorem d1_74 : decode prog_24_method_6_code 74 = .ok (.iconst 0, 1) := by decide +kernel
theorem d1_75 : decode prog_24_method_6_code 75 = .ok (.ireturn, 1) := by decide +kernel
theorem pn_1 : plainName "com/example/querywright/querywright/derived/ResultShape" = true := by first | (simp [plainName, overriddenIn]; done) | decide +kernel
theorem ef_1 (m : MethodId) (x0 : Addr) : entryFrame m #[(.ref x0)] 1 = mkF m 0 #[.val (.ref x0)] [] := by first | (simp [entryFrame, mkF, argsToLocals, Value.category]; done) | rfl
theorem d2_0 : decode jdk_37_method_2_code 0 = .ok (.aload_n 0, 1) := by decide +kernel
theorem d2_1 : decode jdk_37_method_2_code 1 = .ok (.getfield 7, 3) := by decide +kernel
theorem d2_4 : decode jdk_37_method_2_code 4 = .ok (.ireturn, 1) := by decide +kernel
theorem pn_2 : plainName "java/lang/Enum" = true := by first | (simp [plainName, overriddenIn]; done) | decide +kernel
theorem ef_2 (m : MethodId) (x0 : Addr) : entryFrame m #[(.ref x0)] 1 = mkF m 0 #[.val (.ref x0)] [] := by first | (simp [entryFrame, mkF, argsToLocals, Value.category]; done) | rfl
theorem d3_0 : decode prog_24_method_7_code 0 = .ok (.aload_n 0, 1) := by decide +kernel
theorem d3_1 : decode prog_24_method_7_code 1 = .ok (.getstatic 3, 3) := by decide +kernel
theorem d3_4 : decode prog_24_method_7_code 4 = .ok (.if_acmp .eq 10, 3) := by decide +kernel
theorem d3_7 : decode prog_24_method_7_code 7 = .ok (.aload_n 0, 1) := by decide +kernel
theorem d3_8 : decode prog_24_method_7_code 8 = .ok (.getstatic 7, 3) := by decide +kernel
theorem d3_11 : decode prog_24_method_7_code 11 = .ok (.if_acmp .ne 7, 3) := by decide +kernel
theorem d3_14 : decode prog_24_method_7_code 14 = .ok (.iconst 1, 1) := by decide +kernel
theorem d3_15 : decode prog_24_method_7_code 15 = .ok (.goto 4, 3) := by decide +kernel
theorem d3_18 : decode prog_24_method_7_code 18 = .ok (.iconst 0, 1) := by decide +kernel
theorem d3_19 : decode prog_24_method_7_code 19 = .ok (.ireturn, 1) := by decide +kernel
theorem pn_3 : plainName "com/example/querywright/querywright/derived/ResultShape" = true := by first | (simp [plainName, overriddenIn]; done) | decide +kernel
theorem ef_3 (m : MethodId) (x0 : Addr) : entryFrame m #[(.ref x0)] 1 = mkF m 0 #[.val (.ref x0)] [] := by first | (simp [entryFrame, mkF, argsToLocals, Value.category]; done) | rfl
theorem pd_0 : parseMethodDescriptor "()I" = some ⟨[], some .int⟩ := by decide +kernel
theorem pd_1 : parseMethodDescriptor "()Z" = some ⟨[], some .boolean⟩ := by decide +kernel
set_option maxRecDepth 65536 in
set_option maxHeartbeats 40000000 in
theorem rm2_0 (l : Launch) (Z : State) (a0 : Array Value) (hw : ∀ d ∈ tables_1, d.before a0 Z = true) (ws : List Jvm.Cond) (p0 : Int32) (a_ONE a_SET a_OPTIONAL a_ARRAY a_INT a_LIST a_BOOLEAN a_NOTHING a_STREAM a_LONG : Addr) (h0 : Heap) (n0 : Nat) (Z0 : n0 ≤ h0.size) (FF : Facts Z h0 a_ONE a_SET a_OPTIONAL a_ARRAY a_INT a_LIST a_BOOLEAN a_NOTHING a_STREAM a_LONG) :
    MetFree l (⟨"java/lang/Enum", "ordinal", "()I"⟩ : MethodName) (head1 (Jvm.Cond.code (⟨"java/lang/Enum", "ordinal", "()I"⟩ : MethodName) jdk_37_method_2_code 1 (some .int) :: ws) ({ frames := 0, cells := 0, slots := 0, locals := 0 } : Room)) (fun a U => a = #[(.ref a_ONE)] ∧ Z.Warmed39 U.vm ∧ U.heap = h0) (fun _ _ _ _ _ => True) (fun _ U o U' => ∃ v L, o = .returned v ∧ own_Q (.int (0 : Int32)) h0 n0 v U'.heap L ∧ FrameEnd U o U' L ({ frames := 0, cells := 0, slots := 0, locals := 0 } : Room).cells ({ frames := 0, cells := 0, slots := 0, locals := 0 } : Room).slots) := by
  refine MetFree.of_bodySF (plainFor_of_name pn_2) hisR ?_
  intro p e s m args below meth c s₁ Bd hml0 hP hK
  obtain ⟨rfl, hZ, hh⟩ := hP
  have hx := Bd.exec
  have hby := Bd.bytes
  have hml : c.maxLocals = 1 := hml0
  have hown : s.vm.findClass "java/lang/Enum" = some m.cls := findClass_of_methodNamed Bd.named
  have X0 : Stand p l e ({ frames := 0, cells := 0, slots := 0, locals := 0 } : Room) s m #[(.ref a_ONE)] below meth c s₁ [] 0 0 := Stand.of_body Bd
  have e0 : s₁.heap = h0 := by rw [← hh, Bd.state]; rfl
  have N0 := Fr.nil n0
  have pre0 : ∀ t, Steps p.tables e below (s₁.setTop (mkF m 0 #[.val (.ref a_ONE)] [])) t → Steps p.tables e below (s₁.setTop (entryFrame m #[(.ref a_ONE)] 1)) t := fun t k => castTop (ef_2 m a_ONE) k
  obtain ⟨T1, X1, e1, st1⟩ := getF X0 hx hZ hown (host := "") (Or.inl (hw _ (List.mem_of_getElem? (i := 16) rfl))) Via.refl e0 (fx_F_ONE_ordinal FF) (g := (mkF m 1 #[.val (.ref a_ONE)] [(.ref a_ONE)])) rfl rfl (hb hby d2_1)
  obtain ⟨fs, hr, hrun, hended, hW, hsame⟩ := X1.leave (v := some (.int (0 : Int32))) (fun h => by rw [Bd.returns] at h; cases h)
  refine ⟨_, _, pre0 _ ?_, hrun, hended, _, _, rfl, ?_, ⟨_, rfl⟩, hW, hsame.mono (by decide) (by decide)⟩
  · show Steps p.tables e below (s₁.setTop (mkF m 0 #[.val (.ref a_ONE)] [])) _
    refine XS.aloadN X0.here hx rfl (hb hby d2_0) rfl rfl ?_
    show Steps p.tables e below (s₁.setTop (mkF m 1 #[.val (.ref a_ONE)] [(.ref a_ONE)])) _
    refine st1 _ ?_
    show Steps p.tables e below (T1.setTop (mkF m 4 #[.val (.ref a_ONE)] [(.int (0 : Int32))])) _
    exact retI X1 hx Bd.returns (hb hby d2_4) hr
  · show own_Q _ _ _ _ T1.heap _
    exact ⟨rfl, N0, e1⟩
set_option maxRecDepth 65536 in
set_option maxHeartbeats 40000000 in
theorem rm1_0 (l : Launch) (Z : State) (a0 : Array Value) (hw : ∀ d ∈ tables_1, d.before a0 Z = true) (ws : List Jvm.Cond) (p0 : Int32) (a_ONE a_SET a_OPTIONAL a_ARRAY a_INT a_LIST a_BOOLEAN a_NOTHING a_STREAM a_LONG : Addr) (h0 : Heap) (n0 : Nat) (Z0 : n0 ≤ h0.size) (FF : Facts Z h0 a_ONE a_SET a_OPTIONAL a_ARRAY a_INT a_LIST a_BOOLEAN a_NOTHING a_STREAM a_LONG) :
    MetFree l (⟨"com/example/querywright/querywright/derived/ResultShape", "holdsRows", "()Z"⟩ : MethodName) (head1 (Jvm.Cond.code (⟨"com/example/querywright/querywright/derived/ResultShape", "holdsRows", "()Z"⟩ : MethodName) prog_24_method_6_code 1 (some .boolean) :: ws) ({ frames := 1, cells := 0, slots := 0, locals := 12 } : Room)) (fun a U => a = #[(.ref a_ONE)] ∧ Z.Warmed39 U.vm ∧ U.heap = h0) (fun _ _ _ _ _ => True) (fun _ U o U' => ∃ v L, o = .returned v ∧ own_Q (.int (1 : Int32)) h0 n0 v U'.heap L ∧ FrameEnd U o U' L ({ frames := 1, cells := 0, slots := 0, locals := 12 } : Room).cells ({ frames := 1, cells := 0, slots := 0, locals := 12 } : Room).slots) := by
  refine MetFree.of_bodySF (plainFor_of_name pn_1) hisR ?_
  intro p e s m args below meth c s₁ Bd hml0 hP hK
  obtain ⟨rfl, hZ, hh⟩ := hP
  have hx := Bd.exec
  have hby := Bd.bytes
  have hml : c.maxLocals = 1 := hml0
  have hown : s.vm.findClass "com/example/querywright/querywright/derived/ResultShape" = some m.cls := findClass_of_methodNamed Bd.named
  have X0 : Stand p l e ({ frames := 1, cells := 0, slots := 0, locals := 12 } : Room) s m #[(.ref a_ONE)] below meth c s₁ [] 0 0 := Stand.of_body Bd
  have e0 : s₁.heap = h0 := by rw [← hh, Bd.state]; rfl
  have N0 := Fr.nil n0
  have pre0 : ∀ t, Steps p.tables e below (s₁.setTop (mkF m 0 #[.val (.ref a_ONE)] [])) t → Steps p.tables e below (s₁.setTop (entryFrame m #[(.ref a_ONE)] 1)) t := fun t k => castTop (ef_1 m a_ONE) k
  obtain ⟨cq1, kq1, q1a, q1b, q1c⟩ := isOf hZ e0 (fx_E_ONE FF)
  obtain ⟨_, _, ⟨T1, L1, k1, n1⟩, -, X1, ⟨Lc1, hQ1, l1, y1, z1⟩, st1⟩ := X0.virtualBackUp hx (owner := "java/lang/Enum") (x := (⟨"com/example/querywright/querywright/derived/ResultShape", "ordinal", "()I"⟩ : MethodName)) (y := (⟨"java/lang/Enum", "ordinal", "()I"⟩ : MethodName)) hown (mvT hZ (hw _ (List.mem_of_getElem? (i := 9) rfl))) (mvT hZ (hw _ (List.mem_of_getElem? (i := 10) rfl))) (mvT hZ (hw _ (List.mem_of_getElem? (i := 11) rfl))) (by decide) (mvT hZ (hw _ (List.mem_of_getElem? (i := 13) rfl))) (mvT hZ (hw _ (List.mem_of_getElem? (i := 12) rfl))) (backOf (W := 0) (rm2_0 l Z a0 hw [] p0 a_ONE a_SET a_OPTIONAL a_ARRAY a_INT a_LIST a_BOOLEAN a_NOTHING a_STREAM a_LONG h0 n0 (Nat.le_trans Z0 (Nat.le_refl _)) FF) hZ (hw _ (List.mem_of_getElem? (i := 15) rfl)) (hw _ (List.mem_of_getElem? (i := 14) rfl)) (by decide) (by decide)) q1a q1c (g := (mkF m 1 #[.val (.ref a_ONE)] [(.ref a_ONE)])) rfl (by rw [hml]; rfl) (Steps.refl _) (argsL := []) (rest := []) (lenOf pd_0 rfl) rfl (by show 2 * 0 + _ ≤ _; exact Nat.le_of_eq rfl) (hb hby d1_1) (fun _ _ => ⟨rfl, e0, (by decide : 0 + 0 ≤ _), (by decide : 0 + 0 ≤ _)⟩)
  dsimp only [Pt.U, Pt.locs, Pt.cells, Pt.slots] at X1 l1 y1 z1 st1 hQ1
  subst l1 y1 z1
  obtain ⟨rfl, N1q, e1⟩ := hQ1
  have N1 := Fr.app N0 N1q
  obtain ⟨fs, hr, hrun, hended, hW, hsame⟩ := X1.leave (v := some (.int (1 : Int32))) (fun h => by rw [Bd.returns] at h; cases h)
  refine ⟨_, _, pre0 _ ?_, hrun, hended, _, _, rfl, ?_, ⟨_, rfl⟩, hW, hsame.mono (by decide) (by decide)⟩
  · show Steps p.tables e below (s₁.setTop (mkF m 0 #[.val (.ref a_ONE)] [])) _
    refine XS.aloadN X0.here hx rfl (hb hby d1_0) rfl rfl ?_
    show Steps p.tables e below (s₁.setTop (mkF m 1 #[.val (.ref a_ONE)] [(.ref a_ONE)])) _
    refine st1.trans ?_
    show Steps p.tables e below (T1.setTop (mkF m 4 #[.val (.ref a_ONE)] [(.int (0 : Int32))])) _
    refine XS.tswIn X1.here hx rfl (o := 66) (pc0 := 4) (pc' := 70) rfl (hb hby d1_4) rfl (by decide) rfl (by decide) (by decide) ?_
    show Steps p.tables e below (T1.setTop (mkF m 70 #[.val (.ref a_ONE)] [])) _
    refine XS.iconst X1.here hx rfl (hb hby d1_70) ?_
    show Steps p.tables e below (T1.setTop (mkF m 71 #[.val (.ref a_ONE)] [(.int (1 : Int32))])) _
    refine XS.goto X1.here hx rfl (pc0 := 71) (pc' := 75) rfl (hb hby d1_71) (by decide) (by decide) ?_
    show Steps p.tables e below (T1.setTop (mkF m 75 #[.val (.ref a_ONE)] [(.int (1 : Int32))])) _
    exact retN X1 hx (t := .boolean) Bd.returns (by simp) (hb hby d1_75) hr
  · show own_Q _ _ _ _ T1.heap _
    exact ⟨rfl, N1, e1⟩
set_option maxRecDepth 65536 in
set_option maxHeartbeats 40000000 in
theorem rm3_0 (l : Launch) (Z : State) (a0 : Array Value) (hw : ∀ d ∈ tables_1, d.before a0 Z = true) (ws : List Jvm.Cond) (p0 : Int32) (a_ONE a_SET a_OPTIONAL a_ARRAY a_INT a_LIST a_BOOLEAN a_NOTHING a_STREAM a_LONG : Addr) (h0 : Heap) (n0 : Nat) (Z0 : n0 ≤ h0.size) (FF : Facts Z h0 a_ONE a_SET a_OPTIONAL a_ARRAY a_INT a_LIST a_BOOLEAN a_NOTHING a_STREAM a_LONG) :
    MetFree l (⟨"com/example/querywright/querywright/derived/ResultShape", "isSingle", "()Z"⟩ : MethodName) (head1 (Jvm.Cond.code (⟨"com/example/querywright/querywright/derived/ResultShape", "isSingle", "()Z"⟩ : MethodName) prog_24_method_7_code 1 (some .boolean) :: ws) ({ frames := 0, cells := 0, slots := 0, locals := 0 } : Room)) (fun a U => a = #[(.ref a_ONE)] ∧ Z.Warmed39 U.vm ∧ U.heap = h0) (fun _ _ _ _ _ => True) (fun _ U o U' => ∃ v L, o = .returned v ∧ own_Q (.int (1 : Int32)) h0 n0 v U'.heap L ∧ FrameEnd U o U' L ({ frames := 0, cells := 0, slots := 0, locals := 0 } : Room).cells ({ frames := 0, cells := 0, slots := 0, locals := 0 } : Room).slots) := by
  refine MetFree.of_bodySF (plainFor_of_name pn_3) hisR ?_
  intro p e s m args below meth c s₁ Bd hml0 hP hK
  obtain ⟨rfl, hZ, hh⟩ := hP
  have hx := Bd.exec
  have hby := Bd.bytes
  have hml : c.maxLocals = 1 := hml0
  have hown : s.vm.findClass "com/example/querywright/querywright/derived/ResultShape" = some m.cls := findClass_of_methodNamed Bd.named
  have X0 : Stand p l e ({ frames := 0, cells := 0, slots := 0, locals := 0 } : Room) s m #[(.ref a_ONE)] below meth c s₁ [] 0 0 := Stand.of_body Bd
  have e0 : s₁.heap = h0 := by rw [← hh, Bd.state]; rfl
  have N0 := Fr.nil n0
  have pre0 : ∀ t, Steps p.tables e below (s₁.setTop (mkF m 0 #[.val (.ref a_ONE)] [])) t → Steps p.tables e below (s₁.setTop (entryFrame m #[(.ref a_ONE)] 1)) t := fun t k => castTop (ef_3 m a_ONE) k
  obtain ⟨T1, X1, e1, st1⟩ := getS2 X0 hx hZ hown (host := "") (Or.inl (hw _ (List.mem_of_getElem? (i := 23) rfl))) Via.refl e0 (fx_S_ONE FF) (g := (mkF m 1 #[.val (.ref a_ONE)] [(.ref a_ONE)])) rfl (hb hby d3_1)
  obtain ⟨fs, hr, hrun, hended, hW, hsame⟩ := X1.leave (v := some (.int (1 : Int32))) (fun h => by rw [Bd.returns] at h; cases h)
  refine ⟨_, _, pre0 _ ?_, hrun, hended, _, _, rfl, ?_, ⟨_, rfl⟩, hW, hsame.mono (by decide) (by decide)⟩
  · show Steps p.tables e below (s₁.setTop (mkF m 0 #[.val (.ref a_ONE)] [])) _
    refine XS.aloadN X0.here hx rfl (hb hby d3_0) rfl rfl ?_
    show Steps p.tables e below (s₁.setTop (mkF m 1 #[.val (.ref a_ONE)] [(.ref a_ONE)])) _
    refine st1 _ ?_
    show Steps p.tables e below (T1.setTop (mkF m 4 #[.val (.ref a_ONE)] [(.ref a_ONE), (.ref a_ONE)])) _
    refine Jvm.RoadKit.acmp (g := (mkF m 4 #[.val (.ref a_ONE)] [(.ref a_ONE), (.ref a_ONE)])) X1 hx rfl rfl rfl (pc0 := 4) (pc' := 14) (same := true) rfl (hb hby d3_4) rfl (decide_eq_true rfl) (by decide) (by decide) ?_
    show Steps p.tables e below (T1.setTop (mkF m 14 #[.val (.ref a_ONE)] [])) _
    refine XS.iconst X1.here hx rfl (hb hby d3_14) ?_
    show Steps p.tables e below (T1.setTop (mkF m 15 #[.val (.ref a_ONE)] [(.int (1 : Int32))])) _
    refine XS.goto X1.here hx rfl (pc0 := 15) (pc' := 19) rfl (hb hby d3_15) (by decide) (by decide) ?_
    show Steps p.tables e below (T1.setTop (mkF m 19 #[.val (.ref a_ONE)] [(.int (1 : Int32))])) _
    exact retN X1 hx (t := .boolean) Bd.returns (by simp) (hb hby d3_19) hr
  · show own_Q _ _ _ _ T1.heap _
    exact ⟨rfl, N0, e1⟩
set_option maxRecDepth 65536 in
set_option maxHeartbeats 40000000 in
theorem rm0_0 (l : Launch) (Z : State) (a0 : Array Value) (hw : ∀ d ∈ tables_1, d.before a0 Z = true) (ws : List Jvm.Cond) (p0 : Int32) (a_ONE a_SET a_OPTIONAL a_ARRAY a_INT a_LIST a_BOOLEAN a_NOTHING a_STREAM a_LONG : Addr) (h0 : Heap) (n0 : Nat) (Z0 : n0 ≤ h0.size) (FF : Facts Z h0 a_ONE a_SET a_OPTIONAL a_ARRAY a_INT a_LIST a_BOOLEAN a_NOTHING a_STREAM a_LONG) (hk0 : ((p0 &&& (2147483647 : Int32)) % (10 : Int32)) = (0 : Int32)) :
    MetFree l x (head1 (Jvm.Cond.code x code maxLocals ret :: ws) room_1) (fun a U => a = #[(.int p0)] ∧ Z.Warmed39 U.vm ∧ U.heap = h0) (fun _ _ _ _ _ => True) (fun _ U o U' => ∃ v L, o = .returned v ∧ (v = some (.int (1 : Int32)) ∧ Fr n0 L) ∧ FrameEnd U o U' L room_1.cells room_1.slots) := by
  refine MetFree.of_bodySF (plainFor_of_name pn_0) hisR ?_
  intro p e s m args below meth c s₁ Bd hml0 hP hK
  obtain ⟨rfl, hZ, hh⟩ := hP
  have hx := Bd.exec
  have hby := Bd.bytes
  have hml : c.maxLocals = 5 := hml0
  have hown : s.vm.findClass "com/example/querywright/querywright/derived/ResultShapeHoldsRowsPinLaw" = some m.cls := findClass_of_methodNamed Bd.named
  have X0 : Stand p l e room_1 s m #[(.int p0)] below meth c s₁ [] 0 0 := Stand.of_body Bd
  have e0 : s₁.heap = h0 := by rw [← hh, Bd.state]; rfl
  have N0 := Fr.nil n0
  have pre0 : ∀ t, Steps p.tables e below (s₁.setTop (mkF m 0 #[.val (.int p0), .unset, .unset, .unset, .unset] [])) t → Steps p.tables e below (s₁.setTop (entryFrame m #[(.int p0)] maxLocals)) t := fun t k => castTop (ef_0 m p0) k
  obtain ⟨T1, X1, e1, st1⟩ := getS2 X0 hx hZ hown (host := "") (Or.inl (hw _ (List.mem_of_getElem? (i := 1) rfl))) Via.refl e0 (fx_S_ONE FF) (g := (mkF m 12 #[.val (.int p0), .val (.int (0 : Int32)), .unset, .unset, .unset] [])) rfl (hb hby at_12)
  obtain ⟨cq2, kq2, q2a, q2b, q2c⟩ := isOf hZ e1 (fx_E_ONE FF)
  obtain ⟨_, _, ⟨T2, L2, k2, n2⟩, -, X2, ⟨Lc2, hQ2, l2, y2, z2⟩, st2⟩ := X1.virtualBack hx (y := (⟨"com/example/querywright/querywright/derived/ResultShape", "holdsRows", "()Z"⟩ : MethodName)) (z := (⟨"com/example/querywright/querywright/derived/ResultShape", "holdsRows", "()Z"⟩ : MethodName)) hown (mvT hZ (hw _ (List.mem_of_getElem? (i := 4) rfl))) (mvT hZ (hw _ (List.mem_of_getElem? (i := 5) rfl))) (notFace_of_selects (args := #[]) (mvT hZ (hw _ (List.mem_of_getElem? (i := 7) rfl)))) (mvT hZ (hw _ (List.mem_of_getElem? (i := 7) rfl))) (mvT hZ (hw _ (List.mem_of_getElem? (i := 6) rfl))) (by decide) (backOf (W := 0) (rm1_0 l Z a0 hw [] p0 a_ONE a_SET a_OPTIONAL a_ARRAY a_INT a_LIST a_BOOLEAN a_NOTHING a_STREAM a_LONG h0 n0 (Nat.le_trans Z0 (Nat.le_refl _)) FF) hZ (hw _ (List.mem_of_getElem? (i := 8) rfl)) (hw _ (List.mem_of_getElem? (i := 2) rfl)) (by decide) (by decide)) q2a q2c (g := (mkF m 143 #[.val (.int p0), .val (.int (0 : Int32)), .val (.ref a_ONE), .val (.int (1 : Int32)), .unset] [(.ref a_ONE)])) rfl (by rw [hml]; rfl) (Steps.refl _) (argsL := []) (rest := []) (lenOf pd_1 rfl) rfl (by show 2 * 0 + _ ≤ _; exact Nat.le_of_eq rfl) (hb hby at_143) (fun _ _ => ⟨rfl, e1, (by decide : 0 + 0 ≤ _), (by decide : 0 + 0 ≤ _)⟩)
  dsimp only [Pt.U, Pt.locs, Pt.cells, Pt.slots] at X2 l2 y2 z2 st2 hQ2
  subst l2 y2 z2
  obtain ⟨rfl, N2q, e2⟩ := hQ2
  have N2 := Fr.app N0 N2q
  obtain ⟨cq3, kq3, q3a, q3b, q3c⟩ := isOf hZ e2 (fx_E_ONE FF)
  obtain ⟨_, _, ⟨T3, L3, k3, n3⟩, -, X3, ⟨Lc3, hQ3, l3, y3, z3⟩, st3⟩ := X2.virtualBack hx (y := (⟨"com/example/querywright/querywright/derived/ResultShape", "isSingle", "()Z"⟩ : MethodName)) (z := (⟨"com/example/querywright/querywright/derived/ResultShape", "isSingle", "()Z"⟩ : MethodName)) hown (mvT hZ (hw _ (List.mem_of_getElem? (i := 18) rfl))) (mvT hZ (hw _ (List.mem_of_getElem? (i := 19) rfl))) (notFace_of_selects (args := #[]) (mvT hZ (hw _ (List.mem_of_getElem? (i := 21) rfl)))) (mvT hZ (hw _ (List.mem_of_getElem? (i := 21) rfl))) (mvT hZ (hw _ (List.mem_of_getElem? (i := 20) rfl))) (by decide) (backOf (W := 0) (rm3_0 l Z a0 hw [] p0 a_ONE a_SET a_OPTIONAL a_ARRAY a_INT a_LIST a_BOOLEAN a_NOTHING a_STREAM a_LONG h0 n0 (Nat.le_trans Z0 (Nat.le_refl _)) FF) hZ (hw _ (List.mem_of_getElem? (i := 22) rfl)) (hw _ (List.mem_of_getElem? (i := 2) rfl)) (by decide) (by decide)) q3a q3c (g := (mkF m 155 #[.val (.int p0), .val (.int (0 : Int32)), .val (.ref a_ONE), .val (.int (1 : Int32)), .val (.int (1 : Int32))] [(.ref a_ONE)])) rfl (by rw [hml]; rfl) (Steps.refl _) (argsL := []) (rest := []) (lenOf pd_1 rfl) rfl (by show 2 * 0 + _ ≤ _; exact Nat.le_of_eq rfl) (hb hby at_155) (fun _ _ => ⟨rfl, e2, (by decide : 0 + 0 ≤ _), (by decide : 0 + 0 ≤ _)⟩)
  dsimp only [Pt.U, Pt.locs, Pt.cells, Pt.slots] at X3 l3 y3 z3 st3 hQ3
  subst l3 y3 z3
  obtain ⟨rfl, N3q, e3⟩ := hQ3
  have N3 := Fr.app N2 N3q
  obtain ⟨fs, hr, hrun, hended, hW, hsame⟩ := X3.leave (v := some (.int (1 : Int32))) (fun h => by rw [Bd.returns] at h; cases h)
  refine ⟨_, _, pre0 _ ?_, hrun, hended, _, _, rfl, ?_, ⟨_, rfl⟩, hW, hsame.mono (by decide) (by decide)⟩
  · show Steps p.tables e below (s₁.setTop (mkF m 0 #[.val (.int p0), .unset, .unset, .unset, .unset] [])) _
    refine XS.iloadN X0.here hx rfl (hb hby at_0) rfl ?_
    show Steps p.tables e below (s₁.setTop (mkF m 1 #[.val (.int p0), .unset, .unset, .unset, .unset] [(.int p0)])) _
    refine X0.ldcInt hx hown (mvT hZ (hw _ (List.mem_of_getElem? (i := 0) rfl))) (g := (mkF m 1 #[.val (.int p0), .unset, .unset, .unset, .unset] [(.int p0)])) rfl (hb hby at_1) _ ?_
    show Steps p.tables e below (s₁.setTop (mkF m 3 #[.val (.int p0), .unset, .unset, .unset, .unset] [(.int (2147483647 : Int32)), (.int p0)])) _
    refine XS.iand X0.here hx rfl (hb hby at_3) rfl ?_
    show Steps p.tables e below (s₁.setTop (mkF m 4 #[.val (.int p0), .unset, .unset, .unset, .unset] [(.int (p0 &&& (2147483647 : Int32)))])) _
    refine XS.bipush X0.here hx rfl (hb hby at_4) ?_
    show Steps p.tables e below (s₁.setTop (mkF m 6 #[.val (.int p0), .unset, .unset, .unset, .unset] [(.int (10 : Int32)), (.int (p0 &&& (2147483647 : Int32)))])) _
    refine iremM X0 hx rfl (hb hby at_6) rfl (by decide) ?_
    show Steps p.tables e below (s₁.setTop (mkF m 7 #[.val (.int p0), .unset, .unset, .unset, .unset] [(.int ((p0 &&& (2147483647 : Int32)) % (10 : Int32)))])) _
    rw [hk0]
    show Steps p.tables e below (s₁.setTop (mkF m 7 #[.val (.int p0), .unset, .unset, .unset, .unset] [(.int (0 : Int32))])) _
    refine XS.istoreN X0.here hx rfl (hb hby at_7) rfl (l' := #[.val (.int p0), .val (.int (0 : Int32)), .unset, .unset, .unset]) rfl ?_
    show Steps p.tables e below (s₁.setTop (mkF m 8 #[.val (.int p0), .val (.int (0 : Int32)), .unset, .unset, .unset] [])) _
    refine XS.iloadN X0.here hx rfl (hb hby at_8) rfl ?_
    show Steps p.tables e below (s₁.setTop (mkF m 9 #[.val (.int p0), .val (.int (0 : Int32)), .unset, .unset, .unset] [(.int (0 : Int32))])) _
    refine XS.ifNo X0.here hx rfl (hb hby at_9) rfl (by decide) ?_
    show Steps p.tables e below (s₁.setTop (mkF m 12 #[.val (.int p0), .val (.int (0 : Int32)), .unset, .unset, .unset] [])) _
    refine st1 _ ?_
    show Steps p.tables e below (T1.setTop (mkF m 15 #[.val (.int p0), .val (.int (0 : Int32)), .unset, .unset, .unset] [(.ref a_ONE)])) _
    refine XS.astoreN X1.here hx rfl (hb hby at_15) rfl rfl (l' := #[.val (.int p0), .val (.int (0 : Int32)), .val (.ref a_ONE), .unset, .unset]) rfl ?_
    show Steps p.tables e below (T1.setTop (mkF m 16 #[.val (.int p0), .val (.int (0 : Int32)), .val (.ref a_ONE), .unset, .unset] [])) _
    refine XS.iconst X1.here hx rfl (hb hby at_16) ?_
    show Steps p.tables e below (T1.setTop (mkF m 17 #[.val (.int p0), .val (.int (0 : Int32)), .val (.ref a_ONE), .unset, .unset] [(.int (1 : Int32))])) _
    refine XS.istoreN X1.here hx rfl (hb hby at_17) rfl (l' := #[.val (.int p0), .val (.int (0 : Int32)), .val (.ref a_ONE), .val (.int (1 : Int32)), .unset]) rfl ?_
    show Steps p.tables e below (T1.setTop (mkF m 18 #[.val (.int p0), .val (.int (0 : Int32)), .val (.ref a_ONE), .val (.int (1 : Int32)), .unset] [])) _
    refine XS.goto X1.here hx rfl (pc0 := 18) (pc' := 142) rfl (hb hby at_18) (by decide) (by decide) ?_
    show Steps p.tables e below (T1.setTop (mkF m 142 #[.val (.int p0), .val (.int (0 : Int32)), .val (.ref a_ONE), .val (.int (1 : Int32)), .unset] [])) _
    refine XS.aloadN X1.here hx rfl (hb hby at_142) rfl rfl ?_
    show Steps p.tables e below (T1.setTop (mkF m 143 #[.val (.int p0), .val (.int (0 : Int32)), .val (.ref a_ONE), .val (.int (1 : Int32)), .unset] [(.ref a_ONE)])) _
    refine st2.trans ?_
    show Steps p.tables e below (T2.setTop (mkF m 146 #[.val (.int p0), .val (.int (0 : Int32)), .val (.ref a_ONE), .val (.int (1 : Int32)), .unset] [(.int (1 : Int32))])) _
    refine XS.istore X2.here hx rfl (hb hby at_146) rfl (l' := #[.val (.int p0), .val (.int (0 : Int32)), .val (.ref a_ONE), .val (.int (1 : Int32)), .val (.int (1 : Int32))]) rfl ?_
    show Steps p.tables e below (T2.setTop (mkF m 148 #[.val (.int p0), .val (.int (0 : Int32)), .val (.ref a_ONE), .val (.int (1 : Int32)), .val (.int (1 : Int32))] [])) _
    refine XS.iload X2.here hx rfl (hb hby at_148) rfl ?_
    show Steps p.tables e below (T2.setTop (mkF m 150 #[.val (.int p0), .val (.int (0 : Int32)), .val (.ref a_ONE), .val (.int (1 : Int32)), .val (.int (1 : Int32))] [(.int (1 : Int32))])) _
    refine XS.iloadN X2.here hx rfl (hb hby at_150) rfl ?_
    show Steps p.tables e below (T2.setTop (mkF m 151 #[.val (.int p0), .val (.int (0 : Int32)), .val (.ref a_ONE), .val (.int (1 : Int32)), .val (.int (1 : Int32))] [(.int (1 : Int32)), (.int (1 : Int32))])) _
    refine XS.icmpNo X2.here hx rfl (hb hby at_151) rfl (by decide) ?_
    show Steps p.tables e below (T2.setTop (mkF m 154 #[.val (.int p0), .val (.int (0 : Int32)), .val (.ref a_ONE), .val (.int (1 : Int32)), .val (.int (1 : Int32))] [])) _
    refine XS.aloadN X2.here hx rfl (hb hby at_154) rfl rfl ?_
    show Steps p.tables e below (T2.setTop (mkF m 155 #[.val (.int p0), .val (.int (0 : Int32)), .val (.ref a_ONE), .val (.int (1 : Int32)), .val (.int (1 : Int32))] [(.ref a_ONE)])) _
    refine st3.trans ?_
    show Steps p.tables e below (T3.setTop (mkF m 158 #[.val (.int p0), .val (.int (0 : Int32)), .val (.ref a_ONE), .val (.int (1 : Int32)), .val (.int (1 : Int32))] [(.int (1 : Int32))])) _
    refine XS.ifNo X3.here hx rfl (hb hby at_158) rfl (by decide) ?_
    show Steps p.tables e below (T3.setTop (mkF m 161 #[.val (.int p0), .val (.int (0 : Int32)), .val (.ref a_ONE), .val (.int (1 : Int32)), .val (.int (1 : Int32))] [])) _
    refine XS.iload X3.here hx rfl (hb hby at_161) rfl ?_
    show Steps p.tables e below (T3.setTop (mkF m 163 #[.val (.int p0), .val (.int (0 : Int32)), .val (.ref a_ONE), .val (.int (1 : Int32)), .val (.int (1 : Int32))] [(.int (1 : Int32))])) _
    refine XS.ifNo X3.here hx rfl (hb hby at_163) rfl (by decide) ?_
    show Steps p.tables e below (T3.setTop (mkF m 166 #[.val (.int p0), .val (.int (0 : Int32)), .val (.ref a_ONE), .val (.int (1 : Int32)), .val (.int (1 : Int32))] [])) _
    refine XS.iconst X3.here hx rfl (hb hby at_166) ?_
    show Steps p.tables e below (T3.setTop (mkF m 167 #[.val (.int p0), .val (.int (0 : Int32)), .val (.ref a_ONE), .val (.int (1 : Int32)), .val (.int (1 : Int32))] [(.int (1 : Int32))])) _
    refine XS.goto X3.here hx rfl (pc0 := 167) (pc' := 171) rfl (hb hby at_167) (by decide) (by decide) ?_
    show Steps p.tables e below (T3.setTop (mkF m 171 #[.val (.int p0), .val (.int (0 : Int32)), .val (.ref a_ONE), .val (.int (1 : Int32)), .val (.int (1 : Int32))] [(.int (1 : Int32))])) _
    exact retN X3 hx (t := .boolean) Bd.returns (by simp) (hb hby at_171) hr
  · exact ⟨rfl, N3⟩
set_option maxRecDepth 65536 in
set_option maxHeartbeats 40000000 in
theorem rm2_1 (l : Launch) (Z : State) (a0 : Array Value) (hw : ∀ d ∈ tables_1, d.before a0 Z = true) (ws : List Jvm.Cond) (p0 : Int32) (a_ONE a_SET a_OPTIONAL a_ARRAY a_INT a_LIST a_BOOLEAN a_NOTHING a_STREAM a_LONG : Addr) (h0 : Heap) (n0 : Nat) (Z0 : n0 ≤ h0.size) (FF : Facts Z h0 a_ONE a_SET a_OPTIONAL a_ARRAY a_INT a_LIST a_BOOLEAN a_NOTHING a_STREAM a_LONG) :
    MetFree l (⟨"java/lang/Enum", "ordinal", "()I"⟩ : MethodName) (head1 (Jvm.Cond.code (⟨"java/lang/Enum", "ordinal", "()I"⟩ : MethodName) jdk_37_method_2_code 1 (some .int) :: ws) ({ frames := 0, cells := 0, slots := 0, locals := 0 } : Room)) (fun a U => a = #[(.ref a_OPTIONAL)] ∧ Z.Warmed39 U.vm ∧ U.heap = h0) (fun _ _ _ _ _ => True) (fun _ U o U' => ∃ v L, o = .returned v ∧ own_Q (.int (1 : Int32)) h0 n0 v U'.heap L ∧ FrameEnd U o U' L ({ frames := 0, cells := 0, slots := 0, locals := 0 } : Room).cells ({ frames := 0, cells := 0, slots := 0, locals := 0 } : Room).slots) := by
  refine MetFree.of_bodySF (plainFor_of_name pn_2) hisR ?_
  intro p e s m args below meth c s₁ Bd hml0 hP hK
  obtain ⟨rfl, hZ, hh⟩ := hP
  have hx := Bd.exec
  have hby := Bd.bytes
  have hml : c.maxLocals = 1 := hml0
  have hown : s.vm.findClass "java/lang/Enum" = some m.cls := findClass_of_methodNamed Bd.named
  have X0 : Stand p l e ({ frames := 0, cells := 0, slots := 0, locals := 0 } : Room) s m #[(.ref a_OPTIONAL)] below meth c s₁ [] 0 0 := Stand.of_body Bd
  have e0 : s₁.heap = h0 := by rw [← hh, Bd.state]; rfl
  have N0 := Fr.nil n0
  have pre0 : ∀ t, Steps p.tables e below (s₁.setTop (mkF m 0 #[.val (.ref a_OPTIONAL)] [])) t → Steps p.tables e below (s₁.setTop (entryFrame m #[(.ref a_OPTIONAL)] 1)) t := fun t k => castTop (ef_2 m a_OPTIONAL) k
  obtain ⟨T1, X1, e1, st1⟩ := getF X0 hx hZ hown (host := "") (Or.inl (hw _ (List.mem_of_getElem? (i := 16) rfl))) Via.refl e0 (fx_F_OPTIONAL_ordinal FF) (g := (mkF m 1 #[.val (.ref a_OPTIONAL)] [(.ref a_OPTIONAL)])) rfl rfl (hb hby d2_1)
  obtain ⟨fs, hr, hrun, hended, hW, hsame⟩ := X1.leave (v := some (.int (1 : Int32))) (fun h => by rw [Bd.returns] at h; cases h)
  refine ⟨_, _, pre0 _ ?_, hrun, hended, _, _, rfl, ?_, ⟨_, rfl⟩, hW, hsame.mono (by decide) (by decide)⟩
  · show Steps p.tables e below (s₁.setTop (mkF m 0 #[.val (.ref a_OPTIONAL)] [])) _
    refine XS.aloadN X0.here hx rfl (hb hby d2_0) rfl rfl ?_
    show Steps p.tables e below (s₁.setTop (mkF m 1 #[.val (.ref a_OPTIONAL)] [(.ref a_OPTIONAL)])) _
    refine st1 _ ?_
    show Steps p.tables e below (T1.setTop (mkF m 4 #[.val (.ref a_OPTIONAL)] [(.int (1 : Int32))])) _
    exact retI X1 hx Bd.returns (hb hby d2_4) hr
  · show own_Q _ _ _ _ T1.heap _
    exact ⟨rfl, N0, e1⟩
set_option maxRecDepth 65536 in
set_option maxHeartbeats 40000000 in
theorem rm1_1 (l : Launch) (Z : State) (a0 : Array Value) (hw : ∀ d ∈ tables_1, d.before a0 Z = true) (ws : List Jvm.Cond) (p0 : Int32) (a_ONE a_SET a_OPTIONAL a_ARRAY a_INT a_LIST a_BOOLEAN a_NOTHING a_STREAM a_LONG : Addr) (h0 : Heap) (n0 : Nat) (Z0 : n0 ≤ h0.size) (FF : Facts Z h0 a_ONE a_SET a_OPTIONAL a_ARRAY a_INT a_LIST a_BOOLEAN a_NOTHING a_STREAM a_LONG) :
    MetFree l (⟨"com/example/querywright/querywright/derived/ResultShape", "holdsRows", "()Z"⟩ : MethodName) (head1 (Jvm.Cond.code (⟨"com/example/querywright/querywright/derived/ResultShape", "holdsRows", "()Z"⟩ : MethodName) prog_24_method_6_code 1 (some .boolean) :: ws) ({ frames := 1, cells := 0, slots := 0, locals := 12 } : Room)) (fun a U => a = #[(.ref a_OPTIONAL)] ∧ Z.Warmed39 U.vm ∧ U.heap = h0) (fun _ _ _ _ _ => True) (fun _ U o U' => ∃ v L, o = .returned v ∧ own_Q (.int (1 : Int32)) h0 n0 v U'.heap L ∧ FrameEnd U o U' L ({ frames := 1, cells := 0, slots := 0, locals := 12 } : Room).cells ({ frames := 1, cells := 0, slots := 0, locals := 12 } : Room).slots) := by
  refine MetFree.of_bodySF (plainFor_of_name pn_1) hisR ?_
  intro p e s m args below meth c s₁ Bd hml0 hP hK
  obtain ⟨rfl, hZ, hh⟩ := hP
  have hx := Bd.exec
  have hby := Bd.bytes
  have hml : c.maxLocals = 1 := hml0
  have hown : s.vm.findClass "com/example/querywright/querywright/derived/ResultShape" = some m.cls := findClass_of_methodNamed Bd.named
  have X0 : Stand p l e ({ frames := 1, cells := 0, slots := 0, locals := 12 } : Room) s m #[(.ref a_OPTIONAL)] below meth c s₁ [] 0 0 := Stand.of_body Bd
  have e0 : s₁.heap = h0 := by rw [← hh, Bd.state]; rfl
  have N0 := Fr.nil n0
  have pre0 : ∀ t, Steps p.tables e below (s₁.setTop (mkF m 0 #[.val (.ref a_OPTIONAL)] [])) t → Steps p.tables e below (s₁.setTop (entryFrame m #[(.ref a_OPTIONAL)] 1)) t := fun t k => castTop (ef_1 m a_OPTIONAL) k
  obtain ⟨cq1, kq1, q1a, q1b, q1c⟩ := isOf hZ e0 (fx_E_OPTIONAL FF)
  obtain ⟨_, _, ⟨T1, L1, k1, n1⟩, -, X1, ⟨Lc1, hQ1, l1, y1, z1⟩, st1⟩ := X0.virtualBackUp hx (owner := "java/lang/Enum") (x := (⟨"com/example/querywright/querywright/derived/ResultShape", "ordinal", "()I"⟩ : MethodName)) (y := (⟨"java/lang/Enum", "ordinal", "()I"⟩ : MethodName)) hown (mvT hZ (hw _ (List.mem_of_getElem? (i := 9) rfl))) (mvT hZ (hw _ (List.mem_of_getElem? (i := 10) rfl))) (mvT hZ (hw _ (List.mem_of_getElem? (i := 11) rfl))) (by decide) (mvT hZ (hw _ (List.mem_of_getElem? (i := 13) rfl))) (mvT hZ (hw _ (List.mem_of_getElem? (i := 12) rfl))) (backOf (W := 0) (rm2_1 l Z a0 hw [] p0 a_ONE a_SET a_OPTIONAL a_ARRAY a_INT a_LIST a_BOOLEAN a_NOTHING a_STREAM a_LONG h0 n0 (Nat.le_trans Z0 (Nat.le_refl _)) FF) hZ (hw _ (List.mem_of_getElem? (i := 15) rfl)) (hw _ (List.mem_of_getElem? (i := 14) rfl)) (by decide) (by decide)) q1a q1c (g := (mkF m 1 #[.val (.ref a_OPTIONAL)] [(.ref a_OPTIONAL)])) rfl (by rw [hml]; rfl) (Steps.refl _) (argsL := []) (rest := []) (lenOf pd_0 rfl) rfl (by show 2 * 0 + _ ≤ _; exact Nat.le_of_eq rfl) (hb hby d1_1) (fun _ _ => ⟨rfl, e0, (by decide : 0 + 0 ≤ _), (by decide : 0 + 0 ≤ _)⟩)
  dsimp only [Pt.U, Pt.locs, Pt.cells, Pt.slots] at X1 l1 y1 z1 st1 hQ1
  subst l1 y1 z1
  obtain ⟨rfl, N1q, e1⟩ := hQ1
  have N1 := Fr.app N0 N1q
  obtain ⟨fs, hr, hrun, hended, hW, hsame⟩ := X1.leave (v := some (.int (1 : Int32))) (fun h => by rw [Bd.returns] at h; cases h)
  refine ⟨_, _, pre0 _ ?_, hrun, hended, _, _, rfl, ?_, ⟨_, rfl⟩, hW, hsame.mono (by decide) (by decide)⟩
  · show Steps p.tables e below (s₁.setTop (mkF m 0 #[.val (.ref a_OPTIONAL)] [])) _
    refine XS.aloadN X0.here hx rfl (hb hby d1_0) rfl rfl ?_
    show Steps p.tables e below (s₁.setTop (mkF m 1 #[.val (.ref a_OPTIONAL)] [(.ref a_OPTIONAL)])) _
    refine st1.trans ?_
    show Steps p.tables e below (T1.setTop (mkF m 4 #[.val (.ref a_OPTIONAL)] [(.int (1 : Int32))])) _
    refine XS.tswIn X1.here hx rfl (o := 66) (pc0 := 4) (pc' := 70) rfl (hb hby d1_4) rfl (by decide) rfl (by decide) (by decide) ?_
    show Steps p.tables e below (T1.setTop (mkF m 70 #[.val (.ref a_OPTIONAL)] [])) _
    refine XS.iconst X1.here hx rfl (hb hby d1_70) ?_
    show Steps p.tables e below (T1.setTop (mkF m 71 #[.val (.ref a_OPTIONAL)] [(.int (1 : Int32))])) _
    refine XS.goto X1.here hx rfl (pc0 := 71) (pc' := 75) rfl (hb hby d1_71) (by decide) (by decide) ?_
    show Steps p.tables e below (T1.setTop (mkF m 75 #[.val (.ref a_OPTIONAL)] [(.int (1 : Int32))])) _
    exact retN X1 hx (t := .boolean) Bd.returns (by simp) (hb hby d1_75) hr
  · show own_Q _ _ _ _ T1.heap _
    exact ⟨rfl, N1, e1⟩
set_option maxRecDepth 65536 in
set_option maxHeartbeats 40000000 in
theorem rm3_1 (l : Launch) (Z : State) (a0 : Array Value) (hw : ∀ d ∈ tables_1, d.before a0 Z = true) (ws : List Jvm.Cond) (p0 : Int32) (a_ONE a_SET a_OPTIONAL a_ARRAY a_INT a_LIST a_BOOLEAN a_NOTHING a_STREAM a_LONG : Addr) (h0 : Heap) (n0 : Nat) (Z0 : n0 ≤ h0.size) (FF : Facts Z h0 a_ONE a_SET a_OPTIONAL a_ARRAY a_INT a_LIST a_BOOLEAN a_NOTHING a_STREAM a_LONG) :
    MetFree l (⟨"com/example/querywright/querywright/derived/ResultShape", "isSingle", "()Z"⟩ : MethodName) (head1 (Jvm.Cond.code (⟨"com/example/querywright/querywright/derived/ResultShape", "isSingle", "()Z"⟩ : MethodName) prog_24_method_7_code 1 (some .boolean) :: ws) ({ frames := 0, cells := 0, slots := 0, locals := 0 } : Room)) (fun a U => a = #[(.ref a_OPTIONAL)] ∧ Z.Warmed39 U.vm ∧ U.heap = h0) (fun _ _ _ _ _ => True) (fun _ U o U' => ∃ v L, o = .returned v ∧ own_Q (.int (1 : Int32)) h0 n0 v U'.heap L ∧ FrameEnd U o U' L ({ frames := 0, cells := 0, slots := 0, locals := 0 } : Room).cells ({ frames := 0, cells := 0, slots := 0, locals := 0 } : Room).slots) := by
  refine MetFree.of_bodySF (plainFor_of_name pn_3) hisR ?_
  intro p e s m args below meth c s₁ Bd hml0 hP hK
  obtain ⟨rfl, hZ, hh⟩ := hP
  have hx := Bd.exec
  have hby := Bd.bytes
  have hml : c.maxLocals = 1 := hml0
  have hown : s.vm.findClass "com/example/querywright/querywright/derived/ResultShape" = some m.cls := findClass_of_methodNamed Bd.named
  have X0 : Stand p l e ({ frames := 0, cells := 0, slots := 0, locals := 0 } : Room) s m #[(.ref a_OPTIONAL)] below meth c s₁ [] 0 0 := Stand.of_body Bd
  have e0 : s₁.heap = h0 := by rw [← hh, Bd.state]; rfl
  have N0 := Fr.nil n0
  have pre0 : ∀ t, Steps p.tables e below (s₁.setTop (mkF m 0 #[.val (.ref a_OPTIONAL)] [])) t → Steps p.tables e below (s₁.setTop (entryFrame m #[(.ref a_OPTIONAL)] 1)) t := fun t k => castTop (ef_3 m a_OPTIONAL) k
  obtain ⟨T1, X1, e1, st1⟩ := getS2 X0 hx hZ hown (host := "") (Or.inl (hw _ (List.mem_of_getElem? (i := 23) rfl))) Via.refl e0 (fx_S_ONE FF) (g := (mkF m 1 #[.val (.ref a_OPTIONAL)] [(.ref a_OPTIONAL)])) rfl (hb hby d3_1)
  obtain ⟨T2, X2, e2, st2⟩ := getS2 X1 hx hZ hown (host := "") (Or.inl (hw _ (List.mem_of_getElem? (i := 26) rfl))) Via.refl e1 (fx_S_OPTIONAL FF) (g := (mkF m 8 #[.val (.ref a_OPTIONAL)] [(.ref a_OPTIONAL)])) rfl (hb hby d3_8)
  obtain ⟨fs, hr, hrun, hended, hW, hsame⟩ := X2.leave (v := some (.int (1 : Int32))) (fun h => by rw [Bd.returns] at h; cases h)
  refine ⟨_, _, pre0 _ ?_, hrun, hended, _, _, rfl, ?_, ⟨_, rfl⟩, hW, hsame.mono (by decide) (by decide)⟩
  · show Steps p.tables e below (s₁.setTop (mkF m 0 #[.val (.ref a_OPTIONAL)] [])) _
    refine XS.aloadN X0.here hx rfl (hb hby d3_0) rfl rfl ?_
    show Steps p.tables e below (s₁.setTop (mkF m 1 #[.val (.ref a_OPTIONAL)] [(.ref a_OPTIONAL)])) _
    refine st1 _ ?_
    show Steps p.tables e below (T1.setTop (mkF m 4 #[.val (.ref a_OPTIONAL)] [(.ref a_ONE), (.ref a_OPTIONAL)])) _
    refine Jvm.RoadKit.acmp (g := (mkF m 4 #[.val (.ref a_OPTIONAL)] [(.ref a_ONE), (.ref a_OPTIONAL)])) X1 hx rfl rfl rfl (pc0 := 4) (pc' := 7) (same := false) rfl (hb hby d3_4) rfl (decide_eq_false fun q => Fld.ne (fx_F_OPTIONAL_ordinal FF) (fx_F_ONE_ordinal FF) (by decide) (Value.ref.inj q)) (by decide) (by decide) ?_
    show Steps p.tables e below (T1.setTop (mkF m 7 #[.val (.ref a_OPTIONAL)] [])) _
    refine XS.aloadN X1.here hx rfl (hb hby d3_7) rfl rfl ?_
    show Steps p.tables e below (T1.setTop (mkF m 8 #[.val (.ref a_OPTIONAL)] [(.ref a_OPTIONAL)])) _
    refine st2 _ ?_
    show Steps p.tables e below (T2.setTop (mkF m 11 #[.val (.ref a_OPTIONAL)] [(.ref a_OPTIONAL), (.ref a_OPTIONAL)])) _
    refine Jvm.RoadKit.acmp (g := (mkF m 11 #[.val (.ref a_OPTIONAL)] [(.ref a_OPTIONAL), (.ref a_OPTIONAL)])) X2 hx rfl rfl rfl (pc0 := 11) (pc' := 14) (same := true) rfl (hb hby d3_11) rfl (decide_eq_true rfl) (by decide) (by decide) ?_
    show Steps p.tables e below (T2.setTop (mkF m 14 #[.val (.ref a_OPTIONAL)] [])) _
    refine XS.iconst X2.here hx rfl (hb hby d3_14) ?_
    show Steps p.tables e below (T2.setTop (mkF m 15 #[.val (.ref a_OPTIONAL)] [(.int (1 : Int32))])) _
    refine XS.goto X2.here hx rfl (pc0 := 15) (pc' := 19) rfl (hb hby d3_15) (by decide) (by decide) ?_
    show Steps p.tables e below (T2.setTop (mkF m 19 #[.val (.ref a_OPTIONAL)] [(.int (1 : Int32))])) _
    exact retN X2 hx (t := .boolean) Bd.returns (by simp) (hb hby d3_19) hr
  · show own_Q _ _ _ _ T2.heap _
    exact ⟨rfl, N0, e2⟩
set_option maxRecDepth 65536 in
set_option maxHeartbeats 40000000 in
theorem rm0_1 (l : Launch) (Z : State) (a0 : Array Value) (hw : ∀ d ∈ tables_1, d.before a0 Z = true) (ws : List Jvm.Cond) (p0 : Int32) (a_ONE a_SET a_OPTIONAL a_ARRAY a_INT a_LIST a_BOOLEAN a_NOTHING a_STREAM a_LONG : Addr) (h0 : Heap) (n0 : Nat) (Z0 : n0 ≤ h0.size) (FF : Facts Z h0 a_ONE a_SET a_OPTIONAL a_ARRAY a_INT a_LIST a_BOOLEAN a_NOTHING a_STREAM a_LONG) (hk0 : ((p0 &&& (2147483647 : Int32)) % (10 : Int32)) = (1 : Int32)) :
    MetFree l x (head1 (Jvm.Cond.code x code maxLocals ret :: ws) room_1) (fun a U => a = #[(.int p0)] ∧ Z.Warmed39 U.vm ∧ U.heap = h0) (fun _ _ _ _ _ => True) (fun _ U o U' => ∃ v L, o = .returned v ∧ (v = some (.int (1 : Int32)) ∧ Fr n0 L) ∧ FrameEnd U o U' L room_1.cells room_1.slots) := by
  refine MetFree.of_bodySF (plainFor_of_name pn_0) hisR ?_
  intro p e s m args below meth c s₁ Bd hml0 hP hK
  obtain ⟨rfl, hZ, hh⟩ := hP
  have hx := Bd.exec
  have hby := Bd.bytes
  have hml : c.maxLocals = 5 := hml0
  have hown : s.vm.findClass "com/example/querywright/querywright/derived/ResultShapeHoldsRowsPinLaw" = some m.cls := findClass_of_methodNamed Bd.named
  have X0 : Stand p l e room_1 s m #[(.int p0)] below meth c s₁ [] 0 0 := Stand.of_body Bd
  have e0 : s₁.heap = h0 := by rw [← hh, Bd.state]; rfl
  have N0 := Fr.nil n0
  have pre0 : ∀ t, Steps p.tables e below (s₁.setTop (mkF m 0 #[.val (.int p0), .unset, .unset, .unset, .unset] [])) t → Steps p.tables e below (s₁.setTop (entryFrame m #[(.int p0)] maxLocals)) t := fun t k => castTop (ef_0 m p0) k
  obtain ⟨T1, X1, e1, st1⟩ := getS2 X0 hx hZ hown (host := "") (Or.inl (hw _ (List.mem_of_getElem? (i := 28) rfl))) Via.refl e0 (fx_S_OPTIONAL FF) (g := (mkF m 26 #[.val (.int p0), .val (.int (1 : Int32)), .unset, .unset, .unset] [])) rfl (hb hby at_26)
  obtain ⟨cq2, kq2, q2a, q2b, q2c⟩ := isOf hZ e1 (fx_E_OPTIONAL FF)
  obtain ⟨_, _, ⟨T2, L2, k2, n2⟩, -, X2, ⟨Lc2, hQ2, l2, y2, z2⟩, st2⟩ := X1.virtualBack hx (y := (⟨"com/example/querywright/querywright/derived/ResultShape", "holdsRows", "()Z"⟩ : MethodName)) (z := (⟨"com/example/querywright/querywright/derived/ResultShape", "holdsRows", "()Z"⟩ : MethodName)) hown (mvT hZ (hw _ (List.mem_of_getElem? (i := 4) rfl))) (mvT hZ (hw _ (List.mem_of_getElem? (i := 5) rfl))) (notFace_of_selects (args := #[]) (mvT hZ (hw _ (List.mem_of_getElem? (i := 7) rfl)))) (mvT hZ (hw _ (List.mem_of_getElem? (i := 7) rfl))) (mvT hZ (hw _ (List.mem_of_getElem? (i := 6) rfl))) (by decide) (backOf (W := 0) (rm1_1 l Z a0 hw [] p0 a_ONE a_SET a_OPTIONAL a_ARRAY a_INT a_LIST a_BOOLEAN a_NOTHING a_STREAM a_LONG h0 n0 (Nat.le_trans Z0 (Nat.le_refl _)) FF) hZ (hw _ (List.mem_of_getElem? (i := 8) rfl)) (hw _ (List.mem_of_getElem? (i := 2) rfl)) (by decide) (by decide)) q2a q2c (g := (mkF m 143 #[.val (.int p0), .val (.int (1 : Int32)), .val (.ref a_OPTIONAL), .val (.int (1 : Int32)), .unset] [(.ref a_OPTIONAL)])) rfl (by rw [hml]; rfl) (Steps.refl _) (argsL := []) (rest := []) (lenOf pd_1 rfl) rfl (by show 2 * 0 + _ ≤ _; exact Nat.le_of_eq rfl) (hb hby at_143) (fun _ _ => ⟨rfl, e1, (by decide : 0 + 0 ≤ _), (by decide : 0 + 0 ≤ _)⟩)
  dsimp only [Pt.U, Pt.locs, Pt.cells, Pt.slots] at X2 l2 y2 z2 st2 hQ2
  subst l2 y2 z2
  obtain ⟨rfl, N2q, e2⟩ := hQ2
  have N2 := Fr.app N0 N2q
  obtain ⟨cq3, kq3, q3a, q3b, q3c⟩ := isOf hZ e2 (fx_E_OPTIONAL FF)
  obtain ⟨_, _, ⟨T3, L3, k3, n3⟩, -, X3, ⟨Lc3, hQ3, l3, y3, z3⟩, st3⟩ := X2.virtualBack hx (y := (⟨"com/example/querywright/querywright/derived/ResultShape", "isSingle", "()Z"⟩ : MethodName)) (z := (⟨"com/example/querywright/querywright/derived/ResultShape", "isSingle", "()Z"⟩ : MethodName)) hown (mvT hZ (hw _ (List.mem_of_getElem? (i := 18) rfl))) (mvT hZ (hw _ (List.mem_of_getElem? (i := 19) rfl))) (notFace_of_selects (args := #[]) (mvT hZ (hw _ (List.mem_of_getElem? (i := 21) rfl)))) (mvT hZ (hw _ (List.mem_of_getElem? (i := 21) rfl))) (mvT hZ (hw _ (List.mem_of_getElem? (i := 20) rfl))) (by decide) (backOf (W := 0) (rm3_1 l Z a0 hw [] p0 a_ONE a_SET a_OPTIONAL a_ARRAY a_INT a_LIST a_BOOLEAN a_NOTHING a_STREAM a_LONG h0 n0 (Nat.le_trans Z0 (Nat.le_refl _)) FF) hZ (hw _ (List.mem_of_getElem? (i := 22) rfl)) (hw _ (List.mem_of_getElem? (i := 2) rfl)) (by decide) (by decide)) q3a q3c (g := (mkF m 155 #[.val (.int p0), .val (.int (1 : Int32)), .val (.ref a_OPTIONAL), .val (.int (1 : Int32)), .val (.int (1 : Int32))] [(.ref a_OPTIONAL)])) rfl (by rw [hml]; rfl) (Steps.refl _) (argsL := []) (rest := []) (lenOf pd_1 rfl) rfl (by show 2 * 0 + _ ≤ _; exact Nat.le_of_eq rfl) (hb hby at_155) (fun _ _ => ⟨rfl, e2, (by decide : 0 + 0 ≤ _), (by decide : 0 + 0 ≤ _)⟩)
  dsimp only [Pt.U, Pt.locs, Pt.cells, Pt.slots] at X3 l3 y3 z3 st3 hQ3
  subst l3 y3 z3
  obtain ⟨rfl, N3q, e3⟩ := hQ3
  have N3 := Fr.app N2 N3q
  obtain ⟨fs, hr, hrun, hended, hW, hsame⟩ := X3.leave (v := some (.int (1 : Int32))) (fun h => by rw [Bd.returns] at h; cases h)
  refine ⟨_, _, pre0 _ ?_, hrun, hended, _, _, rfl, ?_, ⟨_, rfl⟩, hW, hsame.mono (by decide) (by decide)⟩
  · show Steps p.tables e below (s₁.setTop (mkF m 0 #[.val (.int p0), .unset, .unset, .unset, .unset] [])) _
    refine XS.iloadN X0.here hx rfl (hb hby at_0) rfl ?_
    show Steps p.tables e below (s₁.setTop (mkF m 1 #[.val (.int p0), .unset, .unset, .unset, .unset] [(.int p0)])) _
    refine X0.ldcInt hx hown (mvT hZ (hw _ (List.mem_of_getElem? (i := 0) rfl))) (g := (mkF m 1 #[.val (.int p0), .unset, .unset, .unset, .unset] [(.int p0)])) rfl (hb hby at_1) _ ?_
    show Steps p.tables e below (s₁.setTop (mkF m 3 #[.val (.int p0), .unset, .unset, .unset, .unset] [(.int (2147483647 : Int32)), (.int p0)])) _
    refine XS.iand X0.here hx rfl (hb hby at_3) rfl ?_
    show Steps p.tables e below (s₁.setTop (mkF m 4 #[.val (.int p0), .unset, .unset, .unset, .unset] [(.int (p0 &&& (2147483647 : Int32)))])) _
    refine XS.bipush X0.here hx rfl (hb hby at_4) ?_
    show Steps p.tables e below (s₁.setTop (mkF m 6 #[.val (.int p0), .unset, .unset, .unset, .unset] [(.int (10 : Int32)), (.int (p0 &&& (2147483647 : Int32)))])) _
    refine iremM X0 hx rfl (hb hby at_6) rfl (by decide) ?_
    show Steps p.tables e below (s₁.setTop (mkF m 7 #[.val (.int p0), .unset, .unset, .unset, .unset] [(.int ((p0 &&& (2147483647 : Int32)) % (10 : Int32)))])) _
    rw [hk0]
    show Steps p.tables e below (s₁.setTop (mkF m 7 #[.val (.int p0), .unset, .unset, .unset, .unset] [(.int (1 : Int32))])) _
    refine XS.istoreN X0.here hx rfl (hb hby at_7) rfl (l' := #[.val (.int p0), .val (.int (1 : Int32)), .unset, .unset, .unset]) rfl ?_
    show Steps p.tables e below (s₁.setTop (mkF m 8 #[.val (.int p0), .val (.int (1 : Int32)), .unset, .unset, .unset] [])) _
    refine XS.iloadN X0.here hx rfl (hb hby at_8) rfl ?_
    show Steps p.tables e below (s₁.setTop (mkF m 9 #[.val (.int p0), .val (.int (1 : Int32)), .unset, .unset, .unset] [(.int (1 : Int32))])) _
    refine XS.ifYes X0.here hx rfl (pc0 := 9) (pc' := 21) rfl (hb hby at_9) rfl (by decide) (by decide) (by decide) ?_
    show Steps p.tables e below (s₁.setTop (mkF m 21 #[.val (.int p0), .val (.int (1 : Int32)), .unset, .unset, .unset] [])) _
    refine XS.iloadN X0.here hx rfl (hb hby at_21) rfl ?_
    show Steps p.tables e below (s₁.setTop (mkF m 22 #[.val (.int p0), .val (.int (1 : Int32)), .unset, .unset, .unset] [(.int (1 : Int32))])) _
    refine XS.iconst X0.here hx rfl (hb hby at_22) ?_
    show Steps p.tables e below (s₁.setTop (mkF m 23 #[.val (.int p0), .val (.int (1 : Int32)), .unset, .unset, .unset] [(.int (1 : Int32)), (.int (1 : Int32))])) _
    refine XS.icmpNo X0.here hx rfl (hb hby at_23) rfl (by decide) ?_
    show Steps p.tables e below (s₁.setTop (mkF m 26 #[.val (.int p0), .val (.int (1 : Int32)), .unset, .unset, .unset] [])) _
    refine st1 _ ?_
    show Steps p.tables e below (T1.setTop (mkF m 29 #[.val (.int p0), .val (.int (1 : Int32)), .unset, .unset, .unset] [(.ref a_OPTIONAL)])) _
    refine XS.astoreN X1.here hx rfl (hb hby at_29) rfl rfl (l' := #[.val (.int p0), .val (.int (1 : Int32)), .val (.ref a_OPTIONAL), .unset, .unset]) rfl ?_
    show Steps p.tables e below (T1.setTop (mkF m 30 #[.val (.int p0), .val (.int (1 : Int32)), .val (.ref a_OPTIONAL), .unset, .unset] [])) _
    refine XS.iconst X1.here hx rfl (hb hby at_30) ?_
    show Steps p.tables e below (T1.setTop (mkF m 31 #[.val (.int p0), .val (.int (1 : Int32)), .val (.ref a_OPTIONAL), .unset, .unset] [(.int (1 : Int32))])) _
    refine XS.istoreN X1.here hx rfl (hb hby at_31) rfl (l' := #[.val (.int p0), .val (.int (1 : Int32)), .val (.ref a_OPTIONAL), .val (.int (1 : Int32)), .unset]) rfl ?_
    show Steps p.tables e below (T1.setTop (mkF m 32 #[.val (.int p0), .val (.int (1 : Int32)), .val (.ref a_OPTIONAL), .val (.int (1 : Int32)), .unset] [])) _
    refine XS.goto X1.here hx rfl (pc0 := 32) (pc' := 142) rfl (hb hby at_32) (by decide) (by decide) ?_
    show Steps p.tables e below (T1.setTop (mkF m 142 #[.val (.int p0), .val (.int (1 : Int32)), .val (.ref a_OPTIONAL), .val (.int (1 : Int32)), .unset] [])) _
    refine XS.aloadN X1.here hx rfl (hb hby at_142) rfl rfl ?_
    show Steps p.tables e below (T1.setTop (mkF m 143 #[.val (.int p0), .val (.int (1 : Int32)), .val (.ref a_OPTIONAL), .val (.int (1 : Int32)), .unset] [(.ref a_OPTIONAL)])) _
    refine st2.trans ?_
    show Steps p.tables e below (T2.setTop (mkF m 146 #[.val (.int p0), .val (.int (1 : Int32)), .val (.ref a_OPTIONAL), .val (.int (1 : Int32)), .unset] [(.int (1 : Int32))])) _
    refine XS.istore X2.here hx rfl (hb hby at_146) rfl (l' := #[.val (.int p0), .val (.int (1 : Int32)), .val (.ref a_OPTIONAL), .val (.int (1 : Int32)), .val (.int (1 : Int32))]) rfl ?_
    show Steps p.tables e below (T2.setTop (mkF m 148 #[.val (.int p0), .val (.int (1 : Int32)), .val (.ref a_OPTIONAL), .val (.int (1 : Int32)), .val (.int (1 : Int32))] [])) _
    refine XS.iload X2.here hx rfl (hb hby at_148) rfl ?_
    show Steps p.tables e below (T2.setTop (mkF m 150 #[.val (.int p0), .val (.int (1 : Int32)), .val (.ref a_OPTIONAL), .val (.int (1 : Int32)), .val (.int (1 : Int32))] [(.int (1 : Int32))])) _
    refine XS.iloadN X2.here hx rfl (hb hby at_150) rfl ?_
    show Steps p.tables e below (T2.setTop (mkF m 151 #[.val (.int p0), .val (.int (1 : Int32)), .val (.ref a_OPTIONAL), .val (.int (1 : Int32)), .val (.int (1 : Int32))] [(.int (1 : Int32)), (.int (1 : Int32))])) _
    refine XS.icmpNo X2.here hx rfl (hb hby at_151) rfl (by decide) ?_
    show Steps p.tables e below (T2.setTop (mkF m 154 #[.val (.int p0), .val (.int (1 : Int32)), .val (.ref a_OPTIONAL), .val (.int (1 : Int32)), .val (.int (1 : Int32))] [])) _
    refine XS.aloadN X2.here hx rfl (hb hby at_154) rfl rfl ?_
    show Steps p.tables e below (T2.setTop (mkF m 155 #[.val (.int p0), .val (.int (1 : Int32)), .val (.ref a_OPTIONAL), .val (.int (1 : Int32)), .val (.int (1 : Int32))] [(.ref a_OPTIONAL)])) _
    refine st3.trans ?_
    show Steps p.tables e below (T3.setTop (mkF m 158 #[.val (.int p0), .val (.int (1 : Int32)), .val (.ref a_OPTIONAL), .val (.int (1 : Int32)), .val (.int (1 : Int32))] [(.int (1 : Int32))])) _
    refine XS.ifNo X3.here hx rfl (hb hby at_158) rfl (by decide) ?_
    show Steps p.tables e below (T3.setTop (mkF m 161 #[.val (.int p0), .val (.int (1 : Int32)), .val (.ref a_OPTIONAL), .val (.int (1 : Int32)), .val (.int (1 : Int32))] [])) _
    refine XS.iload X3.here hx rfl (hb hby at_161) rfl ?_
    show Steps p.tables e below (T3.setTop (mkF m 163 #[.val (.int p0), .val (.int (1 : Int32)), .val (.ref a_OPTIONAL), .val (.int (1 : Int32)), .val (.int (1 : Int32))] [(.int (1 : Int32))])) _
    refine XS.ifNo X3.here hx rfl (hb hby at_163) rfl (by decide) ?_
    show Steps p.tables e below (T3.setTop (mkF m 166 #[.val (.int p0), .val (.int (1 : Int32)), .val (.ref a_OPTIONAL), .val (.int (1 : Int32)), .val (.int (1 : Int32))] [])) _
    refine XS.iconst X3.here hx rfl (hb hby at_166) ?_
    show Steps p.tables e below (T3.setTop (mkF m 167 #[.val (.int p0), .val (.int (1 : Int32)), .val (.ref a_OPTIONAL), .val (.int (1 : Int32)), .val (.int (1 : Int32))] [(.int (1 : Int32))])) _
    refine XS.goto X3.here hx rfl (pc0 := 167) (pc' := 171) rfl (hb hby at_167) (by decide) (by decide) ?_
    show Steps p.tables e below (T3.setTop (mkF m 171 #[.val (.int p0), .val (.int (1 : Int32)), .val (.ref a_OPTIONAL), .val (.int (1 : Int32)), .val (.int (1 : Int32))] [(.int (1 : Int32))])) _
    exact retN X3 hx (t := .boolean) Bd.returns (by simp) (hb hby at_171) hr
  · exact ⟨rfl, N3⟩
set_option maxRecDepth 65536 in
set_option maxHeartbeats 40000000 in
theorem rm2_2 (l : Launch) (Z : State) (a0 : Array Value) (hw : ∀ d ∈ tables_1, d.before a0 Z = true) (ws : List Jvm.Cond) (p0 : Int32) (a_ONE a_SET a_OPTIONAL a_ARRAY a_INT a_LIST a_BOOLEAN a_NOTHING a_STREAM a_LONG : Addr) (h0 : Heap) (n0 : Nat) (Z0 : n0 ≤ h0.size) (FF : Facts Z h0 a_ONE a_SET a_OPTIONAL a_ARRAY a_INT a_LIST a_BOOLEAN a_NOTHING a_STREAM a_LONG) :
    MetFree l (⟨"java/lang/Enum", "ordinal", "()I"⟩ : MethodName) (head1 (Jvm.Cond.code (⟨"java/lang/Enum", "ordinal", "()I"⟩ : MethodName) jdk_37_method_2_code 1 (some .int) :: ws) ({ frames := 0, cells := 0, slots := 0, locals := 0 } : Room)) (fun a U => a = #[(.ref a_LIST)] ∧ Z.Warmed39 U.vm ∧ U.heap = h0) (fun _ _ _ _ _ => True) (fun _ U o U' => ∃ v L, o = .returned v ∧ own_Q (.int (2 : Int32)) h0 n0 v U'.heap L ∧ FrameEnd U o U' L ({ frames := 0, cells := 0, slots := 0, locals := 0 } : Room).cells ({ frames := 0, cells := 0, slots := 0, locals := 0 } : Room).slots) := by
  refine MetFree.of_bodySF (plainFor_of_name pn_2) hisR ?_
  intro p e s m args below meth c s₁ Bd hml0 hP hK
  obtain ⟨rfl, hZ, hh⟩ := hP
  have hx := Bd.exec
  have hby := Bd.bytes
  have hml : c.maxLocals = 1 := hml0
  have hown : s.vm.findClass "java/lang/Enum" = some m.cls := findClass_of_methodNamed Bd.named
  have X0 : Stand p l e ({ frames := 0, cells := 0, slots := 0, locals := 0 } : Room) s m #[(.ref a_LIST)] below meth c s₁ [] 0 0 := Stand.of_body Bd
  have e0 : s₁.heap = h0 := by rw [← hh, Bd.state]; rfl
  have N0 := Fr.nil n0
  have pre0 : ∀ t, Steps p.tables e below (s₁.setTop (mkF m 0 #[.val (.ref a_LIST)] [])) t → Steps p.tables e below (s₁.setTop (entryFrame m #[(.ref a_LIST)] 1)) t := fun t k => castTop (ef_2 m a_LIST) k
  obtain ⟨T1, X1, e1, st1⟩ := getF X0 hx hZ hown (host := "") (Or.inl (hw _ (List.mem_of_getElem? (i := 16) rfl))) Via.refl e0 (fx_F_LIST_ordinal FF) (g := (mkF m 1 #[.val (.ref a_LIST)] [(.ref a_LIST)])) rfl rfl (hb hby d2_1)
  obtain ⟨fs, hr, hrun, hended, hW, hsame⟩ := X1.leave (v := some (.int (2 : Int32))) (fun h => by rw [Bd.returns] at h; cases h)
  refine ⟨_, _, pre0 _ ?_, hrun, hended, _, _, rfl, ?_, ⟨_, rfl⟩, hW, hsame.mono (by decide) (by decide)⟩
  · show Steps p.tables e below (s₁.setTop (mkF m 0 #[.val (.ref a_LIST)] [])) _
    refine XS.aloadN X0.here hx rfl (hb hby d2_0) rfl rfl ?_
    show Steps p.tables e below (s₁.setTop (mkF m 1 #[.val (.ref a_LIST)] [(.ref a_LIST)])) _
    refine st1 _ ?_
    show Steps p.tables e below (T1.setTop (mkF m 4 #[.val (.ref a_LIST)] [(.int (2 : Int32))])) _
    exact retI X1 hx Bd.returns (hb hby d2_4) hr
  · show own_Q _ _ _ _ T1.heap _
    exact ⟨rfl, N0, e1⟩
set_option maxRecDepth 65536 in
set_option maxHeartbeats 40000000 in
theorem rm1_2 (l : Launch) (Z : State) (a0 : Array Value) (hw : ∀ d ∈ tables_1, d.before a0 Z = true) (ws : List Jvm.Cond) (p0 : Int32) (a_ONE a_SET a_OPTIONAL a_ARRAY a_INT a_LIST a_BOOLEAN a_NOTHING a_STREAM a_LONG : Addr) (h0 : Heap) (n0 : Nat) (Z0 : n0 ≤ h0.size) (FF : Facts Z h0 a_ONE a_SET a_OPTIONAL a_ARRAY a_INT a_LIST a_BOOLEAN a_NOTHING a_STREAM a_LONG) :
    MetFree l (⟨"com/example/querywright/querywright/derived/ResultShape", "holdsRows", "()Z"⟩ : MethodName) (head1 (Jvm.Cond.code (⟨"com/example/querywright/querywright/derived/ResultShape", "holdsRows", "()Z"⟩ : MethodName) prog_24_method_6_code 1 (some .boolean) :: ws) ({ frames := 1, cells := 0, slots := 0, locals := 12 } : Room)) (fun a U => a = #[(.ref a_LIST)] ∧ Z.Warmed39 U.vm ∧ U.heap = h0) (fun _ _ _ _ _ => True) (fun _ U o U' => ∃ v L, o = .returned v ∧ own_Q (.int (1 : Int32)) h0 n0 v U'.heap L ∧ FrameEnd U o U' L ({ frames := 1, cells := 0, slots := 0, locals := 12 } : Room).cells ({ frames := 1, cells := 0, slots := 0, locals := 12 } : Room).slots) := by
  refine MetFree.of_bodySF (plainFor_of_name pn_1) hisR ?_
  intro p e s m args below meth c s₁ Bd hml0 hP hK
  obtain ⟨rfl, hZ, hh⟩ := hP
  have hx := Bd.exec
  have hby := Bd.bytes
  have hml : c.maxLocals = 1 := hml0
  have hown : s.vm.findClass "com/example/querywright/querywright/derived/ResultShape" = some m.cls := findClass_of_methodNamed Bd.named
  have X0 : Stand p l e ({ frames := 1, cells := 0, slots := 0, locals := 12 } : Room) s m #[(.ref a_LIST)] below meth c s₁ [] 0 0 := Stand.of_body Bd
  have e0 : s₁.heap = h0 := by rw [← hh, Bd.state]; rfl
  have N0 := Fr.nil n0
  have pre0 : ∀ t, Steps p.tables e below (s₁.setTop (mkF m 0 #[.val (.ref a_LIST)] [])) t → Steps p.tables e below (s₁.setTop (entryFrame m #[(.ref a_LIST)] 1)) t := fun t k => castTop (ef_1 m a_LIST) k
  obtain ⟨cq1, kq1, q1a, q1b, q1c⟩ := isOf hZ e0 (fx_E_LIST FF)
  obtain ⟨_, _, ⟨T1, L1, k1, n1⟩, -, X1, ⟨Lc1, hQ1, l1, y1, z1⟩, st1⟩ := X0.virtualBackUp hx (owner := "java/lang/Enum") (x := (⟨"com/example/querywright/querywright/derived/ResultShape", "ordinal", "()I"⟩ : MethodName)) (y := (⟨"java/lang/Enum", "ordinal", "()I"⟩ : MethodName)) hown (mvT hZ (hw _ (List.mem_of_getElem? (i := 9) rfl))) (mvT hZ (hw _ (List.mem_of_getElem? (i := 10) rfl))) (mvT hZ (hw _ (List.mem_of_getElem? (i := 11) rfl))) (by decide) (mvT hZ (hw _ (List.mem_of_getElem? (i := 13) rfl))) (mvT hZ (hw _ (List.mem_of_getElem? (i := 12) rfl))) (backOf (W := 0) (rm2_2 l Z a0 hw [] p0 a_ONE a_SET a_OPTIONAL a_ARRAY a_INT a_LIST a_BOOLEAN a_NOTHING a_STREAM a_LONG h0 n0 (Nat.le_trans Z0 (Nat.le_refl _)) FF) hZ (hw _ (List.mem_of_getElem? (i := 15) rfl)) (hw _ (List.mem_of_getElem? (i := 14) rfl)) (by decide) (by decide)) q1a q1c (g := (mkF m 1 #[.val (.ref a_LIST)] [(.ref a_LIST)])) rfl (by rw [hml]; rfl) (Steps.refl _) (argsL := []) (rest := []) (lenOf pd_0 rfl) rfl (by show 2 * 0 + _ ≤ _; exact Nat.le_of_eq rfl) (hb hby d1_1) (fun _ _ => ⟨rfl, e0, (by decide : 0 + 0 ≤ _), (by decide : 0 + 0 ≤ _)⟩)
  dsimp only [Pt.U, Pt.locs, Pt.cells, Pt.slots] at X1 l1 y1 z1 st1 hQ1
  subst l1 y1 z1
  obtain ⟨rfl, N1q, e1⟩ := hQ1
  have N1 := Fr.app N0 N1q
  obtain ⟨fs, hr, hrun, hended, hW, hsame⟩ := X1.leave (v := some (.int (1 : Int32))) (fun h => by rw [Bd.returns] at h; cases h)
  refine ⟨_, _, pre0 _ ?_, hrun, hended, _, _, rfl, ?_, ⟨_, rfl⟩, hW, hsame.mono (by decide) (by decide)⟩
  · show Steps p.tables e below (s₁.setTop (mkF m 0 #[.val (.ref a_LIST)] [])) _
    refine XS.aloadN X0.here hx rfl (hb hby d1_0) rfl rfl ?_
    show Steps p.tables e below (s₁.setTop (mkF m 1 #[.val (.ref a_LIST)] [(.ref a_LIST)])) _
    refine st1.trans ?_
    show Steps p.tables e below (T1.setTop (mkF m 4 #[.val (.ref a_LIST)] [(.int (2 : Int32))])) _
    refine XS.tswIn X1.here hx rfl (o := 66) (pc0 := 4) (pc' := 70) rfl (hb hby d1_4) rfl (by decide) rfl (by decide) (by decide) ?_
    show Steps p.tables e below (T1.setTop (mkF m 70 #[.val (.ref a_LIST)] [])) _
    refine XS.iconst X1.here hx rfl (hb hby d1_70) ?_
    show Steps p.tables e below (T1.setTop (mkF m 71 #[.val (.ref a_LIST)] [(.int (1 : Int32))])) _
    refine XS.goto X1.here hx rfl (pc0 := 71) (pc' := 75) rfl (hb hby d1_71) (by decide) (by decide) ?_
    show Steps p.tables e below (T1.setTop (mkF m 75 #[.val (.ref a_LIST)] [(.int (1 : Int32))])) _
    exact retN X1 hx (t := .boolean) Bd.returns (by simp) (hb hby d1_75) hr
  · show own_Q _ _ _ _ T1.heap _
    exact ⟨rfl, N1, e1⟩
set_option maxRecDepth 65536 in
set_option maxHeartbeats 40000000 in
theorem rm3_2 (l : Launch) (Z : State) (a0 : Array Value) (hw : ∀ d ∈ tables_1, d.before a0 Z = true) (ws : List Jvm.Cond) (p0 : Int32) (a_ONE a_SET a_OPTIONAL a_ARRAY a_INT a_LIST a_BOOLEAN a_NOTHING a_STREAM a_LONG : Addr) (h0 : Heap) (n0 : Nat) (Z0 : n0 ≤ h0.size) (FF : Facts Z h0 a_ONE a_SET a_OPTIONAL a_ARRAY a_INT a_LIST a_BOOLEAN a_NOTHING a_STREAM a_LONG) :
    MetFree l (⟨"com/example/querywright/querywright/derived/ResultShape", "isSingle", "()Z"⟩ : MethodName) (head1 (Jvm.Cond.code (⟨"com/example/querywright/querywright/derived/ResultShape", "isSingle", "()Z"⟩ : MethodName) prog_24_method_7_code 1 (some .boolean) :: ws) ({ frames := 0, cells := 0, slots := 0, locals := 0 } : Room)) (fun a U => a = #[(.ref a_LIST)] ∧ Z.Warmed39 U.vm ∧ U.heap = h0) (fun _ _ _ _ _ => True) (fun _ U o U' => ∃ v L, o = .returned v ∧ own_Q (.int (0 : Int32)) h0 n0 v U'.heap L ∧ FrameEnd U o U' L ({ frames := 0, cells := 0, slots := 0, locals := 0 } : Room).cells ({ frames := 0, cells := 0, slots := 0, locals := 0 } : Room).slots) := by
  refine MetFree.of_bodySF (plainFor_of_name pn_3) hisR ?_
  intro p e s m args below meth c s₁ Bd hml0 hP hK
  obtain ⟨rfl, hZ, hh⟩ := hP
  have hx := Bd.exec
  have hby := Bd.bytes
  have hml : c.maxLocals = 1 := hml0
  have hown : s.vm.findClass "com/example/querywright/querywright/derived/ResultShape" = some m.cls := findClass_of_methodNamed Bd.named
  have X0 : Stand p l e ({ frames := 0, cells := 0, slots := 0, locals := 0 } : Room) s m #[(.ref a_LIST)] below meth c s₁ [] 0 0 := Stand.of_body Bd
  have e0 : s₁.heap = h0 := by rw [← hh, Bd.state]; rfl
  have N0 := Fr.nil n0
  have pre0 : ∀ t, Steps p.tables e below (s₁.setTop (mkF m 0 #[.val (.ref a_LIST)] [])) t → Steps p.tables e below (s₁.setTop (entryFrame m #[(.ref a_LIST)] 1)) t := fun t k => castTop (ef_3 m a_LIST) k
  obtain ⟨T1, X1, e1, st1⟩ := getS2 X0 hx hZ hown (host := "") (Or.inl (hw _ (List.mem_of_getElem? (i := 23) rfl))) Via.refl e0 (fx_S_ONE FF) (g := (mkF m 1 #[.val (.ref a_LIST)] [(.ref a_LIST)])) rfl (hb hby d3_1)
  obtain ⟨T2, X2, e2, st2⟩ := getS2 X1 hx hZ hown (host := "") (Or.inl (hw _ (List.mem_of_getElem? (i := 26) rfl))) Via.refl e1 (fx_S_OPTIONAL FF) (g := (mkF m 8 #[.val (.ref a_LIST)] [(.ref a_LIST)])) rfl (hb hby d3_8)
  obtain ⟨fs, hr, hrun, hended, hW, hsame⟩ := X2.leave (v := some (.int (0 : Int32))) (fun h => by rw [Bd.returns] at h; cases h)
  refine ⟨_, _, pre0 _ ?_, hrun, hended, _, _, rfl, ?_, ⟨_, rfl⟩, hW, hsame.mono (by decide) (by decide)⟩
  · show Steps p.tables e below (s₁.setTop (mkF m 0 #[.val (.ref a_LIST)] [])) _
    refine XS.aloadN X0.here hx rfl (hb hby d3_0) rfl rfl ?_
    show Steps p.tables e below (s₁.setTop (mkF m 1 #[.val (.ref a_LIST)] [(.ref a_LIST)])) _
    refine st1 _ ?_
    show Steps p.tables e below (T1.setTop (mkF m 4 #[.val (.ref a_LIST)] [(.ref a_ONE), (.ref a_LIST)])) _
    refine Jvm.RoadKit.acmp (g := (mkF m 4 #[.val (.ref a_LIST)] [(.ref a_ONE), (.ref a_LIST)])) X1 hx rfl rfl rfl (pc0 := 4) (pc' := 7) (same := false) rfl (hb hby d3_4) rfl (decide_eq_false fun q => Fld.ne (fx_F_LIST_ordinal FF) (fx_F_ONE_ordinal FF) (by decide) (Value.ref.inj q)) (by decide) (by decide) ?_
    show Steps p.tables e below (T1.setTop (mkF m 7 #[.val (.ref a_LIST)] [])) _
    refine XS.aloadN X1.here hx rfl (hb hby d3_7) rfl rfl ?_
    show Steps p.tables e below (T1.setTop (mkF m 8 #[.val (.ref a_LIST)] [(.ref a_LIST)])) _
    refine st2 _ ?_
    show Steps p.tables e below (T2.setTop (mkF m 11 #[.val (.ref a_LIST)] [(.ref a_OPTIONAL), (.ref a_LIST)])) _
    refine Jvm.RoadKit.acmp (g := (mkF m 11 #[.val (.ref a_LIST)] [(.ref a_OPTIONAL), (.ref a_LIST)])) X2 hx rfl rfl rfl (pc0 := 11) (pc' := 18) (same := false) rfl (hb hby d3_11) rfl (decide_eq_false fun q => Fld.ne (fx_F_LIST_ordinal FF) (fx_F_OPTIONAL_ordinal FF) (by decide) (Value.ref.inj q)) (by decide) (by decide) ?_
    show Steps p.tables e below (T2.setTop (mkF m 18 #[.val (.ref a_LIST)] [])) _
    refine XS.iconst X2.here hx rfl (hb hby d3_18) ?_
    show Steps p.tables e below (T2.setTop (mkF m 19 #[.val (.ref a_LIST)] [(.int (0 : Int32))])) _
    exact retN X2 hx (t := .boolean) Bd.returns (by simp) (hb hby d3_19) hr
  · show own_Q _ _ _ _ T2.heap _
    exact ⟨rfl, N0, e2⟩
set_option maxRecDepth 65536 in
set_option maxHeartbeats 40000000 in
theorem rm0_2 (l : Launch) (Z : State) (a0 : Array Value) (hw : ∀ d ∈ tables_1, d.before a0 Z = true) (ws : List Jvm.Cond) (p0 : Int32) (a_ONE a_SET a_OPTIONAL a_ARRAY a_INT a_LIST a_BOOLEAN a_NOTHING a_STREAM a_LONG : Addr) (h0 : Heap) (n0 : Nat) (Z0 : n0 ≤ h0.size) (FF : Facts Z h0 a_ONE a_SET a_OPTIONAL a_ARRAY a_INT a_LIST a_BOOLEAN a_NOTHING a_STREAM a_LONG) (hk0 : ((p0 &&& (2147483647 : Int32)) % (10 : Int32)) = (2 : Int32)) :
    MetFree l x (head1 (Jvm.Cond.code x code maxLocals ret :: ws) room_1) (fun a U => a = #[(.int p0)] ∧ Z.Warmed39 U.vm ∧ U.heap = h0) (fun _ _ _ _ _ => True) (fun _ U o U' => ∃ v L, o = .returned v ∧ (v = some (.int (1 : Int32)) ∧ Fr n0 L) ∧ FrameEnd U o U' L room_1.cells room_1.slots) := by
  refine MetFree.of_bodySF (plainFor_of_name pn_0) hisR ?_
  intro p e s m args below meth c s₁ Bd hml0 hP hK
  obtain ⟨rfl, hZ, hh⟩ := hP
  have hx := Bd.exec
  have hby := Bd.bytes
  have hml : c.maxLocals = 5 := hml0
  have hown : s.vm.findClass "com/example/querywright/querywright/derived/ResultShapeHoldsRowsPinLaw" = some m.cls := findClass_of_methodNamed Bd.named
  have X0 : Stand p l e room_1 s m #[(.int p0)] below meth c s₁ [] 0 0 := Stand.of_body Bd
  have e0 : s₁.heap = h0 := by rw [← hh, Bd.state]; rfl
  have N0 := Fr.nil n0
  have pre0 : ∀ t, Steps p.tables e below (s₁.setTop (mkF m 0 #[.val (.int p0), .unset, .unset, .unset, .unset] [])) t → Steps p.tables e below (s₁.setTop (entryFrame m #[(.int p0)] maxLocals)) t := fun t k => castTop (ef_0 m p0) k
  obtain ⟨T1, X1, e1, st1⟩ := getS2 X0 hx hZ hown (host := "") (Or.inl (hw _ (List.mem_of_getElem? (i := 33) rfl))) Via.refl e0 (fx_S_LIST FF) (g := (mkF m 40 #[.val (.int p0), .val (.int (2 : Int32)), .unset, .unset, .unset] [])) rfl (hb hby at_40)
  obtain ⟨cq2, kq2, q2a, q2b, q2c⟩ := isOf hZ e1 (fx_E_LIST FF)
  obtain ⟨_, _, ⟨T2, L2, k2, n2⟩, -, X2, ⟨Lc2, hQ2, l2, y2, z2⟩, st2⟩ := X1.virtualBack hx (y := (⟨"com/example/querywright/querywright/derived/ResultShape", "holdsRows", "()Z"⟩ : MethodName)) (z := (⟨"com/example/querywright/querywright/derived/ResultShape", "holdsRows", "()Z"⟩ : MethodName)) hown (mvT hZ (hw _ (List.mem_of_getElem? (i := 4) rfl))) (mvT hZ (hw _ (List.mem_of_getElem? (i := 5) rfl))) (notFace_of_selects (args := #[]) (mvT hZ (hw _ (List.mem_of_getElem? (i := 7) rfl)))) (mvT hZ (hw _ (List.mem_of_getElem? (i := 7) rfl))) (mvT hZ (hw _ (List.mem_of_getElem? (i := 6) rfl))) (by decide) (backOf (W := 0) (rm1_2 l Z a0 hw [] p0 a_ONE a_SET a_OPTIONAL a_ARRAY a_INT a_LIST a_BOOLEAN a_NOTHING a_STREAM a_LONG h0 n0 (Nat.le_trans Z0 (Nat.le_refl _)) FF) hZ (hw _ (List.mem_of_getElem? (i := 8) rfl)) (hw _ (List.mem_of_getElem? (i := 2) rfl)) (by decide) (by decide)) q2a q2c (g := (mkF m 143 #[.val (.int p0), .val (.int (2 : Int32)), .val (.ref a_LIST), .val (.int (1 : Int32)), .unset] [(.ref a_LIST)])) rfl (by rw [hml]; rfl) (Steps.refl _) (argsL := []) (rest := []) (lenOf pd_1 rfl) rfl (by show 2 * 0 + _ ≤ _; exact Nat.le_of_eq rfl) (hb hby at_143) (fun _ _ => ⟨rfl, e1, (by decide : 0 + 0 ≤ _), (by decide : 0 + 0 ≤ _)⟩)
  dsimp only [Pt.U, Pt.locs, Pt.cells, Pt.slots] at X2 l2 y2 z2 st2 hQ2
  subst l2 y2 z2
  obtain ⟨rfl, N2q, e2⟩ := hQ2
  have N2 := Fr.app N0 N2q
  obtain ⟨cq3, kq3, q3a, q3b, q3c⟩ := isOf hZ e2 (fx_E_LIST FF)
  obtain ⟨_, _, ⟨T3, L3, k3, n3⟩, -, X3, ⟨Lc3, hQ3, l3, y3, z3⟩, st3⟩ := X2.virtualBack hx (y := (⟨"com/example/querywright/querywright/derived/ResultShape", "isSingle", "()Z"⟩ : MethodName)) (z := (⟨"com/example/querywright/querywright/derived/ResultShape", "isSingle", "()Z"⟩ : MethodName)) hown (mvT hZ (hw _ (List.mem_of_getElem? (i := 18) rfl))) (mvT hZ (hw _ (List.mem_of_getElem? (i := 19) rfl))) (notFace_of_selects (args := #[]) (mvT hZ (hw _ (List.mem_of_getElem? (i := 21) rfl)))) (mvT hZ (hw _ (List.mem_of_getElem? (i := 21) rfl))) (mvT hZ (hw _ (List.mem_of_getElem? (i := 20) rfl))) (by decide) (backOf (W := 0) (rm3_2 l Z a0 hw [] p0 a_ONE a_SET a_OPTIONAL a_ARRAY a_INT a_LIST a_BOOLEAN a_NOTHING a_STREAM a_LONG h0 n0 (Nat.le_trans Z0 (Nat.le_refl _)) FF) hZ (hw _ (List.mem_of_getElem? (i := 22) rfl)) (hw _ (List.mem_of_getElem? (i := 2) rfl)) (by decide) (by decide)) q3a q3c (g := (mkF m 155 #[.val (.int p0), .val (.int (2 : Int32)), .val (.ref a_LIST), .val (.int (1 : Int32)), .val (.int (1 : Int32))] [(.ref a_LIST)])) rfl (by rw [hml]; rfl) (Steps.refl _) (argsL := []) (rest := []) (lenOf pd_1 rfl) rfl (by show 2 * 0 + _ ≤ _; exact Nat.le_of_eq rfl) (hb hby at_155) (fun _ _ => ⟨rfl, e2, (by decide : 0 + 0 ≤ _), (by decide : 0 + 0 ≤ _)⟩)
  dsimp only [Pt.U, Pt.locs, Pt.cells, Pt.slots] at X3 l3 y3 z3 st3 hQ3
  subst l3 y3 z3
  obtain ⟨rfl, N3q, e3⟩ := hQ3
  have N3 := Fr.app N2 N3q
  obtain ⟨fs, hr, hrun, hended, hW, hsame⟩ := X3.leave (v := some (.int (1 : Int32))) (fun h => by rw [Bd.returns] at h; cases h)
  refine ⟨_, _, pre0 _ ?_, hrun, hended, _, _, rfl, ?_, ⟨_, rfl⟩, hW, hsame.mono (by decide) (by decide)⟩
  · show Steps p.tables e below (s₁.setTop (mkF m 0 #[.val (.int p0), .unset, .unset, .unset, .unset] [])) _
    refine XS.iloadN X0.here hx rfl (hb hby at_0) rfl ?_
    show Steps p.tables e below (s₁.setTop (mkF m 1 #[.val (.int p0), .unset, .unset, .unset, .unset] [(.int p0)])) _
    refine X0.ldcInt hx hown (mvT hZ (hw _ (List.mem_of_getElem? (i := 0) rfl))) (g := (mkF m 1 #[.val (.int p0), .unset, .unset, .unset, .unset] [(.int p0)])) rfl (hb hby at_1) _ ?_
    show Steps p.tables e below (s₁.setTop (mkF m 3 #[.val (.int p0), .unset, .unset, .unset, .unset] [(.int (2147483647 : Int32)), (.int p0)])) _
    refine XS.iand X0.here hx rfl (hb hby at_3) rfl ?_
    show Steps p.tables e below (s₁.setTop (mkF m 4 #[.val (.int p0), .unset, .unset, .unset, .unset] [(.int (p0 &&& (2147483647 : Int32)))])) _
    refine XS.bipush X0.here hx rfl (hb hby at_4) ?_
    show Steps p.tables e below (s₁.setTop (mkF m 6 #[.val (.int p0), .unset, .unset, .unset, .unset] [(.int (10 : Int32)), (.int (p0 &&& (2147483647 : Int32)))])) _
    refine iremM X0 hx rfl (hb hby at_6) rfl (by decide) ?_
    show Steps p.tables e below (s₁.setTop (mkF m 7 #[.val (.int p0), .unset, .unset, .unset, .unset] [(.int ((p0 &&& (2147483647 : Int32)) % (10 : Int32)))])) _
    rw [hk0]
    show Steps p.tables e below (s₁.setTop (mkF m 7 #[.val (.int p0), .unset, .unset, .unset, .unset] [(.int (2 : Int32))])) _
    refine XS.istoreN X0.here hx rfl (hb hby at_7) rfl (l' := #[.val (.int p0), .val (.int (2 : Int32)), .unset, .unset, .unset]) rfl ?_
    show Steps p.tables e below (s₁.setTop (mkF m 8 #[.val (.int p0), .val (.int (2 : Int32)), .unset, .unset, .unset] [])) _
    refine XS.iloadN X0.here hx rfl (hb hby at_8) rfl ?_
    show Steps p.tables e below (s₁.setTop (mkF m 9 #[.val (.int p0), .val (.int (2 : Int32)), .unset, .unset, .unset] [(.int (2 : Int32))])) _
    refine XS.ifYes X0.here hx rfl (pc0 := 9) (pc' := 21) rfl (hb hby at_9) rfl (by decide) (by decide) (by decide) ?_
    show Steps p.tables e below (s₁.setTop (mkF m 21 #[.val (.int p0), .val (.int (2 : Int32)), .unset, .unset, .unset] [])) _
    refine XS.iloadN X0.here hx rfl (hb hby at_21) rfl ?_
    show Steps p.tables e below (s₁.setTop (mkF m 22 #[.val (.int p0), .val (.int (2 : Int32)), .unset, .unset, .unset] [(.int (2 : Int32))])) _
    refine XS.iconst X0.here hx rfl (hb hby at_22) ?_
    show Steps p.tables e below (s₁.setTop (mkF m 23 #[.val (.int p0), .val (.int (2 : Int32)), .unset, .unset, .unset] [(.int (1 : Int32)), (.int (2 : Int32))])) _
    refine XS.icmpYes X0.here hx rfl (pc0 := 23) (pc' := 35) rfl (hb hby at_23) rfl (by decide) (by decide) (by decide) ?_
    show Steps p.tables e below (s₁.setTop (mkF m 35 #[.val (.int p0), .val (.int (2 : Int32)), .unset, .unset, .unset] [])) _
    refine XS.iloadN X0.here hx rfl (hb hby at_35) rfl ?_
    show Steps p.tables e below (s₁.setTop (mkF m 36 #[.val (.int p0), .val (.int (2 : Int32)), .unset, .unset, .unset] [(.int (2 : Int32))])) _
    refine XS.iconst X0.here hx rfl (hb hby at_36) ?_
    show Steps p.tables e below (s₁.setTop (mkF m 37 #[.val (.int p0), .val (.int (2 : Int32)), .unset, .unset, .unset] [(.int (2 : Int32)), (.int (2 : Int32))])) _
    refine XS.icmpNo X0.here hx rfl (hb hby at_37) rfl (by decide) ?_
    show Steps p.tables e below (s₁.setTop (mkF m 40 #[.val (.int p0), .val (.int (2 : Int32)), .unset, .unset, .unset] [])) _
    refine st1 _ ?_
    show Steps p.tables e below (T1.setTop (mkF m 43 #[.val (.int p0), .val (.int (2 : Int32)), .unset, .unset, .unset] [(.ref a_LIST)])) _
    refine XS.astoreN X1.here hx rfl (hb hby at_43) rfl rfl (l' := #[.val (.int p0), .val (.int (2 : Int32)), .val (.ref a_LIST), .unset, .unset]) rfl ?_
    show Steps p.tables e below (T1.setTop (mkF m 44 #[.val (.int p0), .val (.int (2 : Int32)), .val (.ref a_LIST), .unset, .unset] [])) _
    refine XS.iconst X1.here hx rfl (hb hby at_44) ?_
    show Steps p.tables e below (T1.setTop (mkF m 45 #[.val (.int p0), .val (.int (2 : Int32)), .val (.ref a_LIST), .unset, .unset] [(.int (1 : Int32))])) _
    refine XS.istoreN X1.here hx rfl (hb hby at_45) rfl (l' := #[.val (.int p0), .val (.int (2 : Int32)), .val (.ref a_LIST), .val (.int (1 : Int32)), .unset]) rfl ?_
    show Steps p.tables e below (T1.setTop (mkF m 46 #[.val (.int p0), .val (.int (2 : Int32)), .val (.ref a_LIST), .val (.int (1 : Int32)), .unset] [])) _
    refine XS.goto X1.here hx rfl (pc0 := 46) (pc' := 142) rfl (hb hby at_46) (by decide) (by decide) ?_
    show Steps p.tables e below (T1.setTop (mkF m 142 #[.val (.int p0), .val (.int (2 : Int32)), .val (.ref a_LIST), .val (.int (1 : Int32)), .unset] [])) _
    refine XS.aloadN X1.here hx rfl (hb hby at_142) rfl rfl ?_
    show Steps p.tables e below (T1.setTop (mkF m 143 #[.val (.int p0), .val (.int (2 : Int32)), .val (.ref a_LIST), .val (.int (1 : Int32)), .unset] [(.ref a_LIST)])) _
    refine st2.trans ?_
    show Steps p.tables e below (T2.setTop (mkF m 146 #[.val (.int p0), .val (.int (2 : Int32)), .val (.ref a_LIST), .val (.int (1 : Int32)), .unset] [(.int (1 : Int32))])) _
    refine XS.istore X2.here hx rfl (hb hby at_146) rfl (l' := #[.val (.int p0), .val (.int (2 : Int32)), .val (.ref a_LIST), .val (.int (1 : Int32)), .val (.int (1 : Int32))]) rfl ?_
    show Steps p.tables e below (T2.setTop (mkF m 148 #[.val (.int p0), .val (.int (2 : Int32)), .val (.ref a_LIST), .val (.int (1 : Int32)), .val (.int (1 : Int32))] [])) _
    refine XS.iload X2.here hx rfl (hb hby at_148) rfl ?_
    show Steps p.tables e below (T2.setTop (mkF m 150 #[.val (.int p0), .val (.int (2 : Int32)), .val (.ref a_LIST), .val (.int (1 : Int32)), .val (.int (1 : Int32))] [(.int (1 : Int32))])) _
    refine XS.iloadN X2.here hx rfl (hb hby at_150) rfl ?_
    show Steps p.tables e below (T2.setTop (mkF m 151 #[.val (.int p0), .val (.int (2 : Int32)), .val (.ref a_LIST), .val (.int (1 : Int32)), .val (.int (1 : Int32))] [(.int (1 : Int32)), (.int (1 : Int32))])) _
    refine XS.icmpNo X2.here hx rfl (hb hby at_151) rfl (by decide) ?_
    show Steps p.tables e below (T2.setTop (mkF m 154 #[.val (.int p0), .val (.int (2 : Int32)), .val (.ref a_LIST), .val (.int (1 : Int32)), .val (.int (1 : Int32))] [])) _
    refine XS.aloadN X2.here hx rfl (hb hby at_154) rfl rfl ?_
    show Steps p.tables e below (T2.setTop (mkF m 155 #[.val (.int p0), .val (.int (2 : Int32)), .val (.ref a_LIST), .val (.int (1 : Int32)), .val (.int (1 : Int32))] [(.ref a_LIST)])) _
    refine st3.trans ?_
    show Steps p.tables e below (T3.setTop (mkF m 158 #[.val (.int p0), .val (.int (2 : Int32)), .val (.ref a_LIST), .val (.int (1 : Int32)), .val (.int (1 : Int32))] [(.int (0 : Int32))])) _
    refine XS.ifYes X3.here hx rfl (pc0 := 158) (pc' := 166) rfl (hb hby at_158) rfl (by decide) (by decide) (by decide) ?_
    show Steps p.tables e below (T3.setTop (mkF m 166 #[.val (.int p0), .val (.int (2 : Int32)), .val (.ref a_LIST), .val (.int (1 : Int32)), .val (.int (1 : Int32))] [])) _
    refine XS.iconst X3.here hx rfl (hb hby at_166) ?_
    show Steps p.tables e below (T3.setTop (mkF m 167 #[.val (.int p0), .val (.int (2 : Int32)), .val (.ref a_LIST), .val (.int (1 : Int32)), .val (.int (1 : Int32))] [(.int (1 : Int32))])) _
    refine XS.goto X3.here hx rfl (pc0 := 167) (pc' := 171) rfl (hb hby at_167) (by decide) (by decide) ?_
    show Steps p.tables e below (T3.setTop (mkF m 171 #[.val (.int p0), .val (.int (2 : Int32)), .val (.ref a_LIST), .val (.int (1 : Int32)), .val (.int (1 : Int32))] [(.int (1 : Int32))])) _
    exact retN X3 hx (t := .boolean) Bd.returns (by simp) (hb hby at_171) hr
  · exact ⟨rfl, N3⟩
set_option maxRecDepth 65536 in
set_option maxHeartbeats 40000000 in
theorem rm2_3 (l : Launch) (Z : State) (a0 : Array Value) (hw : ∀ d ∈ tables_1, d.before a0 Z = true) (ws : List Jvm.Cond) (p0 : Int32) (a_ONE a_SET a_OPTIONAL a_ARRAY a_INT a_LIST a_BOOLEAN a_NOTHING a_STREAM a_LONG : Addr) (h0 : Heap) (n0 : Nat) (Z0 : n0 ≤ h0.size) (FF : Facts Z h0 a_ONE a_SET a_OPTIONAL a_ARRAY a_INT a_LIST a_BOOLEAN a_NOTHING a_STREAM a_LONG) :
    MetFree l (⟨"java/lang/Enum", "ordinal", "()I"⟩ : MethodName) (head1 (Jvm.Cond.code (⟨"java/lang/Enum", "ordinal", "()I"⟩ : MethodName) jdk_37_method_2_code 1 (some .int) :: ws) ({ frames := 0, cells := 0, slots := 0, locals := 0 } : Room)) (fun a U => a = #[(.ref a_SET)] ∧ Z.Warmed39 U.vm ∧ U.heap = h0) (fun _ _ _ _ _ => True) (fun _ U o U' => ∃ v L, o = .returned v ∧ own_Q (.int (3 : Int32)) h0 n0 v U'.heap L ∧ FrameEnd U o U' L ({ frames := 0, cells := 0, slots := 0, locals := 0 } : Room).cells ({ frames := 0, cells := 0, slots := 0, locals := 0 } : Room).slots) := by
  refine MetFree.of_bodySF (plainFor_of_name pn_2) hisR ?_
  intro p e s m args below meth c s₁ Bd hml0 hP hK
  obtain ⟨rfl, hZ, hh⟩ := hP
  have hx := Bd.exec
  have hby := Bd.bytes
  have hml : c.maxLocals = 1 := hml0
  have hown : s.vm.findClass "java/lang/Enum" = some m.cls := findClass_of_methodNamed Bd.named
  have X0 : Stand p l e ({ frames := 0, cells := 0, slots := 0, locals := 0 } : Room) s m #[(.ref a_SET)] below meth c s₁ [] 0 0 := Stand.of_body Bd
  have e0 : s₁.heap = h0 := by rw [← hh, Bd.state]; rfl
  have N0 := Fr.nil n0
  have pre0 : ∀ t, Steps p.tables e below (s₁.setTop (mkF m 0 #[.val (.ref a_SET)] [])) t → Steps p.tables e below (s₁.setTop (entryFrame m #[(.ref a_SET)] 1)) t := fun t k => castTop (ef_2 m a_SET) k
  obtain ⟨T1, X1, e1, st1⟩ := getF X0 hx hZ hown (host := "") (Or.inl (hw _ (List.mem_of_getElem? (i := 16) rfl))) Via.refl e0 (fx_F_SET_ordinal FF) (g := (mkF m 1 #[.val (.ref a_SET)] [(.ref a_SET)])) rfl rfl (hb hby d2_1)
  obtain ⟨fs, hr, hrun, hended, hW, hsame⟩ := X1.leave (v := some (.int (3 : Int32))) (fun h => by rw [Bd.returns] at h; cases h)
  refine ⟨_, _, pre0 _ ?_, hrun, hended, _, _, rfl, ?_, ⟨_, rfl⟩, hW, hsame.mono (by decide) (by decide)⟩
  · show Steps p.tables e below (s₁.setTop (mkF m 0 #[.val (.ref a_SET)] [])) _
    refine XS.aloadN X0.here hx rfl (hb hby d2_0) rfl rfl ?_
    show Steps p.tables e below (s₁.setTop (mkF m 1 #[.val (.ref a_SET)] [(.ref a_SET)])) _
    refine st1 _ ?_
    show Steps p.tables e below (T1.setTop (mkF m 4 #[.val (.ref a_SET)] [(.int (3 : Int32))])) _
    exact retI X1 hx Bd.returns (hb hby d2_4) hr
  · show own_Q _ _ _ _ T1.heap _
    exact ⟨rfl, N0, e1⟩
set_option maxRecDepth 65536 in
set_option maxHeartbeats 40000000 in
theorem rm1_3 (l : Launch) (Z : State) (a0 : Array Value) (hw : ∀ d ∈ tables_1, d.before a0 Z = true) (ws : List Jvm.Cond) (p0 : Int32) (a_ONE a_SET a_OPTIONAL a_ARRAY a_INT a_LIST a_BOOLEAN a_NOTHING a_STREAM a_LONG : Addr) (h0 : Heap) (n0 : Nat) (Z0 : n0 ≤ h0.size) (FF : Facts Z h0 a_ONE a_SET a_OPTIONAL a_ARRAY a_INT a_LIST a_BOOLEAN a_NOTHING a_STREAM a_LONG) :
    MetFree l (⟨"com/example/querywright/querywright/derived/ResultShape", "holdsRows", "()Z"⟩ : MethodName) (head1 (Jvm.Cond.code (⟨"com/example/querywright/querywright/derived/ResultShape", "holdsRows", "()Z"⟩ : MethodName) prog_24_method_6_code 1 (some .boolean) :: ws) ({ frames := 1, cells := 0, slots := 0, locals := 12 } : Room)) (fun a U => a = #[(.ref a_SET)] ∧ Z.Warmed39 U.vm ∧ U.heap = h0) (fun _ _ _ _ _ => True) (fun _ U o U' => ∃ v L, o = .returned v ∧ own_Q (.int (1 : Int32)) h0 n0 v U'.heap L ∧ FrameEnd U o U' L ({ frames := 1, cells := 0, slots := 0, locals := 12 } : Room).cells ({ frames := 1, cells := 0, slots := 0, locals := 12 } : Room).slots) := by
  refine MetFree.of_bodySF (plainFor_of_name pn_1) hisR ?_
  intro p e s m args below meth c s₁ Bd hml0 hP hK
  obtain ⟨rfl, hZ, hh⟩ := hP
  have hx := Bd.exec
  have hby := Bd.bytes
  have hml : c.maxLocals = 1 := hml0
  have hown : s.vm.findClass "com/example/querywright/querywright/derived/ResultShape" = some m.cls := findClass_of_methodNamed Bd.named
  have X0 : Stand p l e ({ frames := 1, cells := 0, slots := 0, locals := 12 } : Room) s m #[(.ref a_SET)] below meth c s₁ [] 0 0 := Stand.of_body Bd
  have e0 : s₁.heap = h0 := by rw [← hh, Bd.state]; rfl
  have N0 := Fr.nil n0
  have pre0 : ∀ t, Steps p.tables e below (s₁.setTop (mkF m 0 #[.val (.ref a_SET)] [])) t → Steps p.tables e below (s₁.setTop (entryFrame m #[(.ref a_SET)] 1)) t := fun t k => castTop (ef_1 m a_SET) k
  obtain ⟨cq1, kq1, q1a, q1b, q1c⟩ := isOf hZ e0 (fx_E_SET FF)
  obtain ⟨_, _, ⟨T1, L1, k1, n1⟩, -, X1, ⟨Lc1, hQ1, l1, y1, z1⟩, st1⟩ := X0.virtualBackUp hx (owner := "java/lang/Enum") (x := (⟨"com/example/querywright/querywright/derived/ResultShape", "ordinal", "()I"⟩ : MethodName)) (y := (⟨"java/lang/Enum", "ordinal", "()I"⟩ : MethodName)) hown (mvT hZ (hw _ (List.mem_of_getElem? (i := 9) rfl))) (mvT hZ (hw _ (List.mem_of_getElem? (i := 10) rfl))) (mvT hZ (hw _ (List.mem_of_getElem? (i := 11) rfl))) (by decide) (mvT hZ (hw _ (List.mem_of_getElem? (i := 13) rfl))) (mvT hZ (hw _ (List.mem_of_getElem? (i := 12) rfl))) (backOf (W := 0) (rm2_3 l Z a0 hw [] p0 a_ONE a_SET a_OPTIONAL a_ARRAY a_INT a_LIST a_BOOLEAN a_NOTHING a_STREAM a_LONG h0 n0 (Nat.le_trans Z0 (Nat.le_refl _)) FF) hZ (hw _ (List.mem_of_getElem? (i := 15) rfl)) (hw _ (List.mem_of_getElem? (i := 14) rfl)) (by decide) (by decide)) q1a q1c (g := (mkF m 1 #[.val (.ref a_SET)] [(.ref a_SET)])) rfl (by rw [hml]; rfl) (Steps.refl _) (argsL := []) (rest := []) (lenOf pd_0 rfl) rfl (by show 2 * 0 + _ ≤ _; exact Nat.le_of_eq rfl) (hb hby d1_1) (fun _ _ => ⟨rfl, e0, (by decide : 0 + 0 ≤ _), (by decide : 0 + 0 ≤ _)⟩)
  dsimp only [Pt.U, Pt.locs, Pt.cells, Pt.slots] at X1 l1 y1 z1 st1 hQ1
  subst l1 y1 z1
  obtain ⟨rfl, N1q, e1⟩ := hQ1
  have N1 := Fr.app N0 N1q
  obtain ⟨fs, hr, hrun, hended, hW, hsame⟩ := X1.leave (v := some (.int (1 : Int32))) (fun h => by rw [Bd.returns] at h; cases h)
  refine ⟨_, _, pre0 _ ?_, hrun, hended, _, _, rfl, ?_, ⟨_, rfl⟩, hW, hsame.mono (by decide) (by decide)⟩
  · show Steps p.tables e below (s₁.setTop (mkF m 0 #[.val (.ref a_SET)] [])) _
    refine XS.aloadN X0.here hx rfl (hb hby d1_0) rfl rfl ?_
    show Steps p.tables e below (s₁.setTop (mkF m 1 #[.val (.ref a_SET)] [(.ref a_SET)])) _
    refine st1.trans ?_
    show Steps p.tables e below (T1.setTop (mkF m 4 #[.val (.ref a_SET)] [(.int (3 : Int32))])) _
    refine XS.tswIn X1.here hx rfl (o := 66) (pc0 := 4) (pc' := 70) rfl (hb hby d1_4) rfl (by decide) rfl (by decide) (by decide) ?_
    show Steps p.tables e below (T1.setTop (mkF m 70 #[.val (.ref a_SET)] [])) _
    refine XS.iconst X1.here hx rfl (hb hby d1_70) ?_
    show Steps p.tables e below (T1.setTop (mkF m 71 #[.val (.ref a_SET)] [(.int (1 : Int32))])) _
    refine XS.goto X1.here hx rfl (pc0 := 71) (pc' := 75) rfl (hb hby d1_71) (by decide) (by decide) ?_
    show Steps p.tables e below (T1.setTop (mkF m 75 #[.val (.ref a_SET)] [(.int (1 : Int32))])) _
    exact retN X1 hx (t := .boolean) Bd.returns (by simp) (hb hby d1_75) hr
  · show own_Q _ _ _ _ T1.heap _
    exact ⟨rfl, N1, e1⟩
set_option maxRecDepth 65536 in
set_option maxHeartbeats 40000000 in
theorem rm3_3 (l : Launch) (Z : State) (a0 : Array Value) (hw : ∀ d ∈ tables_1, d.before a0 Z = true) (ws : List Jvm.Cond) (p0 : Int32) (a_ONE a_SET a_OPTIONAL a_ARRAY a_INT a_LIST a_BOOLEAN a_NOTHING a_STREAM a_LONG : Addr) (h0 : Heap) (n0 : Nat) (Z0 : n0 ≤ h0.size) (FF : Facts Z h0 a_ONE a_SET a_OPTIONAL a_ARRAY a_INT a_LIST a_BOOLEAN a_NOTHING a_STREAM a_LONG) :
    MetFree l (⟨"com/example/querywright/querywright/derived/ResultShape", "isSingle", "()Z"⟩ : MethodName) (head1 (Jvm.Cond.code (⟨"com/example/querywright/querywright/derived/ResultShape", "isSingle", "()Z"⟩ : MethodName) prog_24_method_7_code 1 (some .boolean) :: ws) ({ frames := 0, cells := 0, slots := 0, locals := 0 } : Room)) (fun a U => a = #[(.ref a_SET)] ∧ Z.Warmed39 U.vm ∧ U.heap = h0) (fun _ _ _ _ _ => True) (fun _ U o U' => ∃ v L, o = .returned v ∧ own_Q (.int (0 : Int32)) h0 n0 v U'.heap L ∧ FrameEnd U o U' L ({ frames := 0, cells := 0, slots := 0, locals := 0 } : Room).cells ({ frames := 0, cells := 0, slots := 0, locals := 0 } : Room).slots) := by
  refine MetFree.of_bodySF (plainFor_of_name pn_3) hisR ?_
  intro p e s m args below meth c s₁ Bd hml0 hP hK
  obtain ⟨rfl, hZ, hh⟩ := hP
  have hx := Bd.exec
  have hby := Bd.bytes
  have hml : c.maxLocals = 1 := hml0
  have hown : s.vm.findClass "com/example/querywright/querywright/derived/ResultShape" = some m.cls := findClass_of_methodNamed Bd.named
  have X0 : Stand p l e ({ frames := 0, cells := 0, slots := 0, locals := 0 } : Room) s m #[(.ref a_SET)] below meth c s₁ [] 0 0 := Stand.of_body Bd
  have e0 : s₁.heap = h0 := by rw [← hh, Bd.state]; rfl
  have N0 := Fr.nil n0
  have pre0 : ∀ t, Steps p.tables e below (s₁.setTop (mkF m 0 #[.val (.ref a_SET)] [])) t → Steps p.tables e below (s₁.setTop (entryFrame m #[(.ref a_SET)] 1)) t := fun t k => castTop (ef_3 m a_SET) k
  obtain ⟨T1, X1, e1, st1⟩ := getS2 X0 hx hZ hown (host := "") (Or.inl (hw _ (List.mem_of_getElem? (i := 23) rfl))) Via.refl e0 (fx_S_ONE FF) (g := (mkF m 1 #[.val (.ref a_SET)] [(.ref a_SET)])) rfl (hb hby d3_1)
  obtain ⟨T2, X2, e2, st2⟩ := getS2 X1 hx hZ hown (host := "") (Or.inl (hw _ (List.mem_of_getElem? (i := 26) rfl))) Via.refl e1 (fx_S_OPTIONAL FF) (g := (mkF m 8 #[.val (.ref a_SET)] [(.ref a_SET)])) rfl (hb hby d3_8)
  obtain ⟨fs, hr, hrun, hended, hW, hsame⟩ := X2.leave (v := some (.int (0 : Int32))) (fun h => by rw [Bd.returns] at h; cases h)
  refine ⟨_, _, pre0 _ ?_, hrun, hended, _, _, rfl, ?_, ⟨_, rfl⟩, hW, hsame.mono (by decide) (by decide)⟩
  · show Steps p.tables e below (s₁.setTop (mkF m 0 #[.val (.ref a_SET)] [])) _
    refine XS.aloadN X0.here hx rfl (hb hby d3_0) rfl rfl ?_
    show Steps p.tables e below (s₁.setTop (mkF m 1 #[.val (.ref a_SET)] [(.ref a_SET)])) _
    refine st1 _ ?_
    show Steps p.tables e below (T1.setTop (mkF m 4 #[.val (.ref a_SET)] [(.ref a_ONE), (.ref a_SET)])) _
    refine Jvm.RoadKit.acmp (g := (mkF m 4 #[.val (.ref a_SET)] [(.ref a_ONE), (.ref a_SET)])) X1 hx rfl rfl rfl (pc0 := 4) (pc' := 7) (same := false) rfl (hb hby d3_4) rfl (decide_eq_false fun q => Fld.ne (fx_F_SET_ordinal FF) (fx_F_ONE_ordinal FF) (by decide) (Value.ref.inj q)) (by decide) (by decide) ?_
    show Steps p.tables e below (T1.setTop (mkF m 7 #[.val (.ref a_SET)] [])) _
    refine XS.aloadN X1.here hx rfl (hb hby d3_7) rfl rfl ?_
    show Steps p.tables e below (T1.setTop (mkF m 8 #[.val (.ref a_SET)] [(.ref a_SET)])) _
    refine st2 _ ?_
    show Steps p.tables e below (T2.setTop (mkF m 11 #[.val (.ref a_SET)] [(.ref a_OPTIONAL), (.ref a_SET)])) _
    refine Jvm.RoadKit.acmp (g := (mkF m 11 #[.val (.ref a_SET)] [(.ref a_OPTIONAL), (.ref a_SET)])) X2 hx rfl rfl rfl (pc0 := 11) (pc' := 18) (same := false) rfl (hb hby d3_11) rfl (decide_eq_false fun q => Fld.ne (fx_F_SET_ordinal FF) (fx_F_OPTIONAL_ordinal FF) (by decide) (Value.ref.inj q)) (by decide) (by decide) ?_
    show Steps p.tables e below (T2.setTop (mkF m 18 #[.val (.ref a_SET)] [])) _
    refine XS.iconst X2.here hx rfl (hb hby d3_18) ?_
    show Steps p.tables e below (T2.setTop (mkF m 19 #[.val (.ref a_SET)] [(.int (0 : Int32))])) _
    exact retN X2 hx (t := .boolean) Bd.returns (by simp) (hb hby d3_19) hr
  · show own_Q _ _ _ _ T2.heap _
    exact ⟨rfl, N0, e2⟩
set_option maxRecDepth 65536 in
set_option maxHeartbeats 40000000 in
theorem rm0_3 (l : Launch) (Z : State) (a0 : Array Value) (hw : ∀ d ∈ tables_1, d.before a0 Z = true) (ws : List Jvm.Cond) (p0 : Int32) (a_ONE a_SET a_OPTIONAL a_ARRAY a_INT a_LIST a_BOOLEAN a_NOTHING a_STREAM a_LONG : Addr) (h0 : Heap) (n0 : Nat) (Z0 : n0 ≤ h0.size) (FF : Facts Z h0 a_ONE a_SET a_OPTIONAL a_ARRAY a_INT a_LIST a_BOOLEAN a_NOTHING a_STREAM a_LONG) (hk0 : ((p0 &&& (2147483647 : Int32)) % (10 : Int32)) = (3 : Int32)) :
    MetFree l x (head1 (Jvm.Cond.code x code maxLocals ret :: ws) room_1) (fun a U => a = #[(.int p0)] ∧ Z.Warmed39 U.vm ∧ U.heap = h0) (fun _ _ _ _ _ => True) (fun _ U o U' => ∃ v L, o = .returned v ∧ (v = some (.int (1 : Int32)) ∧ Fr n0 L) ∧ FrameEnd U o U' L room_1.cells room_1.slots) := by
  refine MetFree.of_bodySF (plainFor_of_name pn_0) hisR ?_
  intro p e s m args below meth c s₁ Bd hml0 hP hK
  obtain ⟨rfl, hZ, hh⟩ := hP
  have hx := Bd.exec
  have hby := Bd.bytes
  have hml : c.maxLocals = 5 := hml0
  have hown : s.vm.findClass "com/example/querywright/querywright/derived/ResultShapeHoldsRowsPinLaw" = some m.cls := findClass_of_methodNamed Bd.named
  have X0 : Stand p l e room_1 s m #[(.int p0)] below meth c s₁ [] 0 0 := Stand.of_body Bd
  have e0 : s₁.heap = h0 := by rw [← hh, Bd.state]; rfl
  have N0 := Fr.nil n0
  have pre0 : ∀ t, Steps p.tables e below (s₁.setTop (mkF m 0 #[.val (.int p0), .unset, .unset, .unset, .unset] [])) t → Steps p.tables e below (s₁.setTop (entryFrame m #[(.int p0)] maxLocals)) t := fun t k => castTop (ef_0 m p0) k
  obtain ⟨T1, X1, e1, st1⟩ := getS2 X0 hx hZ hown (host := "") (Or.inl (hw _ (List.mem_of_getElem? (i := 24) rfl))) Via.refl e0 (fx_S_SET FF) (g := (mkF m 54 #[.val (.int p0), .val (.int (3 : Int32)), .unset, .unset, .unset] [])) rfl (hb hby at_54)
  obtain ⟨cq2, kq2, q2a, q2b, q2c⟩ := isOf hZ e1 (fx_E_SET FF)
  obtain ⟨_, _, ⟨T2, L2, k2, n2⟩, -, X2, ⟨Lc2, hQ2, l2, y2, z2⟩, st2⟩ := X1.virtualBack hx (y := (⟨"com/example/querywright/querywright/derived/ResultShape", "holdsRows", "()Z"⟩ : MethodName)) (z := (⟨"com/example/querywright/querywright/derived/ResultShape", "holdsRows", "()Z"⟩ : MethodName)) hown (mvT hZ (hw _ (List.mem_of_getElem? (i := 4) rfl))) (mvT hZ (hw _ (List.mem_of_getElem? (i := 5) rfl))) (notFace_of_selects (args := #[]) (mvT hZ (hw _ (List.mem_of_getElem? (i := 7) rfl)))) (mvT hZ (hw _ (List.mem_of_getElem? (i := 7) rfl))) (mvT hZ (hw _ (List.mem_of_getElem? (i := 6) rfl))) (by decide) (backOf (W := 0) (rm1_3 l Z a0 hw [] p0 a_ONE a_SET a_OPTIONAL a_ARRAY a_INT a_LIST a_BOOLEAN a_NOTHING a_STREAM a_LONG h0 n0 (Nat.le_trans Z0 (Nat.le_refl _)) FF) hZ (hw _ (List.mem_of_getElem? (i := 8) rfl)) (hw _ (List.mem_of_getElem? (i := 2) rfl)) (by decide) (by decide)) q2a q2c (g := (mkF m 143 #[.val (.int p0), .val (.int (3 : Int32)), .val (.ref a_SET), .val (.int (1 : Int32)), .unset] [(.ref a_SET)])) rfl (by rw [hml]; rfl) (Steps.refl _) (argsL := []) (rest := []) (lenOf pd_1 rfl) rfl (by show 2 * 0 + _ ≤ _; exact Nat.le_of_eq rfl) (hb hby at_143) (fun _ _ => ⟨rfl, e1, (by decide : 0 + 0 ≤ _), (by decide : 0 + 0 ≤ _)⟩)
  dsimp only [Pt.U, Pt.locs, Pt.cells, Pt.slots] at X2 l2 y2 z2 st2 hQ2
  subst l2 y2 z2
  obtain ⟨rfl, N2q, e2⟩ := hQ2
  have N2 := Fr.app N0 N2q
  obtain ⟨cq3, kq3, q3a, q3b, q3c⟩ := isOf hZ e2 (fx_E_SET FF)
  obtain ⟨_, _, ⟨T3, L3, k3, n3⟩, -, X3, ⟨Lc3, hQ3, l3, y3, z3⟩, st3⟩ := X2.virtualBack hx (y := (⟨"com/example/querywright/querywright/derived/ResultShape", "isSingle", "()Z"⟩ : MethodName)) (z := (⟨"com/example/querywright/querywright/derived/ResultShape", "isSingle", "()Z"⟩ : MethodName)) hown (mvT hZ (hw _ (List.mem_of_getElem? (i := 18) rfl))) (mvT hZ (hw _ (List.mem_of_getElem? (i := 19) rfl))) (notFace_of_selects (args := #[]) (mvT hZ (hw _ (List.mem_of_getElem? (i := 21) rfl)))) (mvT hZ (hw _ (List.mem_of_getElem? (i := 21) rfl))) (mvT hZ (hw _ (List.mem_of_getElem? (i := 20) rfl))) (by decide) (backOf (W := 0) (rm3_3 l Z a0 hw [] p0 a_ONE a_SET a_OPTIONAL a_ARRAY a_INT a_LIST a_BOOLEAN a_NOTHING a_STREAM a_LONG h0 n0 (Nat.le_trans Z0 (Nat.le_refl _)) FF) hZ (hw _ (List.mem_of_getElem? (i := 22) rfl)) (hw _ (List.mem_of_getElem? (i := 2) rfl)) (by decide) (by decide)) q3a q3c (g := (mkF m 155 #[.val (.int p0), .val (.int (3 : Int32)), .val (.ref a_SET), .val (.int (1 : Int32)), .val (.int (1 : Int32))] [(.ref a_SET)])) rfl (by rw [hml]; rfl) (Steps.refl _) (argsL := []) (rest := []) (lenOf pd_1 rfl) rfl (by show 2 * 0 + _ ≤ _; exact Nat.le_of_eq rfl) (hb hby at_155) (fun _ _ => ⟨rfl, e2, (by decide : 0 + 0 ≤ _), (by decide : 0 + 0 ≤ _)⟩)
  dsimp only [Pt.U, Pt.locs, Pt.cells, Pt.slots] at X3 l3 y3 z3 st3 hQ3
  subst l3 y3 z3
  obtain ⟨rfl, N3q, e3⟩ := hQ3
  have N3 := Fr.app N2 N3q
  obtain ⟨fs, hr, hrun, hended, hW, hsame⟩ := X3.leave (v := some (.int (1 : Int32))) (fun h => by rw [Bd.returns] at h; cases h)
  refine ⟨_, _, pre0 _ ?_, hrun, hended, _, _, rfl, ?_, ⟨_, rfl⟩, hW, hsame.mono (by decide) (by decide)⟩
  · show Steps p.tables e below (s₁.setTop (mkF m 0 #[.val (.int p0), .unset, .unset, .unset, .unset] [])) _
    refine XS.iloadN X0.here hx rfl (hb hby at_0) rfl ?_
    show Steps p.tables e below (s₁.setTop (mkF m 1 #[.val (.int p0), .unset, .unset, .unset, .unset] [(.int p0)])) _
    refine X0.ldcInt hx hown (mvT hZ (hw _ (List.mem_of_getElem? (i := 0) rfl))) (g := (mkF m 1 #[.val (.int p0), .unset, .unset, .unset, .unset] [(.int p0)])) rfl (hb hby at_1) _ ?_
    show Steps p.tables e below (s₁.setTop (mkF m 3 #[.val (.int p0), .unset, .unset, .unset, .unset] [(.int (2147483647 : Int32)), (.int p0)])) _
    refine XS.iand X0.here hx rfl (hb hby at_3) rfl ?_
    show Steps p.tables e below (s₁.setTop (mkF m 4 #[.val (.int p0), .unset, .unset, .unset, .unset] [(.int (p0 &&& (2147483647 : Int32)))])) _
    refine XS.bipush X0.here hx rfl (hb hby at_4) ?_
    show Steps p.tables e below (s₁.setTop (mkF m 6 #[.val (.int p0), .unset, .unset, .unset, .unset] [(.int (10 : Int32)), (.int (p0 &&& (2147483647 : Int32)))])) _
    refine iremM X0 hx rfl (hb hby at_6) rfl (by decide) ?_
    show Steps p.tables e below (s₁.setTop (mkF m 7 #[.val (.int p0), .unset, .unset, .unset, .unset] [(.int ((p0 &&& (2147483647 : Int32)) % (10 : Int32)))])) _
    rw [hk0]
    show Steps p.tables e below (s₁.setTop (mkF m 7 #[.val (.int p0), .unset, .unset, .unset, .unset] [(.int (3 : Int32))])) _
    refine XS.istoreN X0.here hx rfl (hb hby at_7) rfl (l' := #[.val (.int p0), .val (.int (3 : Int32)), .unset, .unset, .unset]) rfl ?_
    show Steps p.tables e below (s₁.setTop (mkF m 8 #[.val (.int p0), .val (.int (3 : Int32)), .unset, .unset, .unset] [])) _
    refine XS.iloadN X0.here hx rfl (hb hby at_8) rfl ?_
    show Steps p.tables e below (s₁.setTop (mkF m 9 #[.val (.int p0), .val (.int (3 : Int32)), .unset, .unset, .unset] [(.int (3 : Int32))])) _
    refine XS.ifYes X0.here hx rfl (pc0 := 9) (pc' := 21) rfl (hb hby at_9) rfl (by decide) (by decide) (by decide) ?_
    show Steps p.tables e below (s₁.setTop (mkF m 21 #[.val (.int p0), .val (.int (3 : Int32)), .unset, .unset, .unset] [])) _
    refine XS.iloadN X0.here hx rfl (hb hby at_21) rfl ?_
    show Steps p.tables e below (s₁.setTop (mkF m 22 #[.val (.int p0), .val (.int (3 : Int32)), .unset, .unset, .unset] [(.int (3 : Int32))])) _
    refine XS.iconst X0.here hx rfl (hb hby at_22) ?_
    show Steps p.tables e below (s₁.setTop (mkF m 23 #[.val (.int p0), .val (.int (3 : Int32)), .unset, .unset, .unset] [(.int (1 : Int32)), (.int (3 : Int32))])) _
    refine XS.icmpYes X0.here hx rfl (pc0 := 23) (pc' := 35) rfl (hb hby at_23) rfl (by decide) (by decide) (by decide) ?_
    show Steps p.tables e below (s₁.setTop (mkF m 35 #[.val (.int p0), .val (.int (3 : Int32)), .unset, .unset, .unset] [])) _
    refine XS.iloadN X0.here hx rfl (hb hby at_35) rfl ?_
    show Steps p.tables e below (s₁.setTop (mkF m 36 #[.val (.int p0), .val (.int (3 : Int32)), .unset, .unset, .unset] [(.int (3 : Int32))])) _
    refine XS.iconst X0.here hx rfl (hb hby at_36) ?_
    show Steps p.tables e below (s₁.setTop (mkF m 37 #[.val (.int p0), .val (.int (3 : Int32)), .unset, .unset, .unset] [(.int (2 : Int32)), (.int (3 : Int32))])) _
    refine XS.icmpYes X0.here hx rfl (pc0 := 37) (pc' := 49) rfl (hb hby at_37) rfl (by decide) (by decide) (by decide) ?_
    show Steps p.tables e below (s₁.setTop (mkF m 49 #[.val (.int p0), .val (.int (3 : Int32)), .unset, .unset, .unset] [])) _
    refine XS.iloadN X0.here hx rfl (hb hby at_49) rfl ?_
    show Steps p.tables e below (s₁.setTop (mkF m 50 #[.val (.int p0), .val (.int (3 : Int32)), .unset, .unset, .unset] [(.int (3 : Int32))])) _
    refine XS.iconst X0.here hx rfl (hb hby at_50) ?_
    show Steps p.tables e below (s₁.setTop (mkF m 51 #[.val (.int p0), .val (.int (3 : Int32)), .unset, .unset, .unset] [(.int (3 : Int32)), (.int (3 : Int32))])) _
    refine XS.icmpNo X0.here hx rfl (hb hby at_51) rfl (by decide) ?_
    show Steps p.tables e below (s₁.setTop (mkF m 54 #[.val (.int p0), .val (.int (3 : Int32)), .unset, .unset, .unset] [])) _
    refine st1 _ ?_
    show Steps p.tables e below (T1.setTop (mkF m 57 #[.val (.int p0), .val (.int (3 : Int32)), .unset, .unset, .unset] [(.ref a_SET)])) _
    refine XS.astoreN X1.here hx rfl (hb hby at_57) rfl rfl (l' := #[.val (.int p0), .val (.int (3 : Int32)), .val (.ref a_SET), .unset, .unset]) rfl ?_
    show Steps p.tables e below (T1.setTop (mkF m 58 #[.val (.int p0), .val (.int (3 : Int32)), .val (.ref a_SET), .unset, .unset] [])) _
    refine XS.iconst X1.here hx rfl (hb hby at_58) ?_
    show Steps p.tables e below (T1.setTop (mkF m 59 #[.val (.int p0), .val (.int (3 : Int32)), .val (.ref a_SET), .unset, .unset] [(.int (1 : Int32))])) _
    refine XS.istoreN X1.here hx rfl (hb hby at_59) rfl (l' := #[.val (.int p0), .val (.int (3 : Int32)), .val (.ref a_SET), .val (.int (1 : Int32)), .unset]) rfl ?_
    show Steps p.tables e below (T1.setTop (mkF m 60 #[.val (.int p0), .val (.int (3 : Int32)), .val (.ref a_SET), .val (.int (1 : Int32)), .unset] [])) _
    refine XS.goto X1.here hx rfl (pc0 := 60) (pc' := 142) rfl (hb hby at_60) (by decide) (by decide) ?_
    show Steps p.tables e below (T1.setTop (mkF m 142 #[.val (.int p0), .val (.int (3 : Int32)), .val (.ref a_SET), .val (.int (1 : Int32)), .unset] [])) _
    refine XS.aloadN X1.here hx rfl (hb hby at_142) rfl rfl ?_
    show Steps p.tables e below (T1.setTop (mkF m 143 #[.val (.int p0), .val (.int (3 : Int32)), .val (.ref a_SET), .val (.int (1 : Int32)), .unset] [(.ref a_SET)])) _
    refine st2.trans ?_
    show Steps p.tables e below (T2.setTop (mkF m 146 #[.val (.int p0), .val (.int (3 : Int32)), .val (.ref a_SET), .val (.int (1 : Int32)), .unset] [(.int (1 : Int32))])) _
    refine XS.istore X2.here hx rfl (hb hby at_146) rfl (l' := #[.val (.int p0), .val (.int (3 : Int32)), .val (.ref a_SET), .val (.int (1 : Int32)), .val (.int (1 : Int32))]) rfl ?_
    show Steps p.tables e below (T2.setTop (mkF m 148 #[.val (.int p0), .val (.int (3 : Int32)), .val (.ref a_SET), .val (.int (1 : Int32)), .val (.int (1 : Int32))] [])) _
    refine XS.iload X2.here hx rfl (hb hby at_148) rfl ?_
    show Steps p.tables e below (T2.setTop (mkF m 150 #[.val (.int p0), .val (.int (3 : Int32)), .val (.ref a_SET), .val (.int (1 : Int32)), .val (.int (1 : Int32))] [(.int (1 : Int32))])) _
    refine XS.iloadN X2.here hx rfl (hb hby at_150) rfl ?_
    show Steps p.tables e below (T2.setTop (mkF m 151 #[.val (.int p0), .val (.int (3 : Int32)), .val (.ref a_SET), .val (.int (1 : Int32)), .val (.int (1 : Int32))] [(.int (1 : Int32)), (.int (1 : Int32))])) _
    refine XS.icmpNo X2.here hx rfl (hb hby at_151) rfl (by decide) ?_
    show Steps p.tables e below (T2.setTop (mkF m 154 #[.val (.int p0), .val (.int (3 : Int32)), .val (.ref a_SET), .val (.int (1 : Int32)), .val (.int (1 : Int32))] [])) _
    refine XS.aloadN X2.here hx rfl (hb hby at_154) rfl rfl ?_
    show Steps p.tables e below (T2.setTop (mkF m 155 #[.val (.int p0), .val (.int (3 : Int32)), .val (.ref a_SET), .val (.int (1 : Int32)), .val (.int (1 : Int32))] [(.ref a_SET)])) _
    refine st3.trans ?_
    show Steps p.tables e below (T3.setTop (mkF m 158 #[.val (.int p0), .val (.int (3 : Int32)), .val (.ref a_SET), .val (.int (1 : Int32)), .val (.int (1 : Int32))] [(.int (0 : Int32))])) _
    refine XS.ifYes X3.here hx rfl (pc0 := 158) (pc' := 166) rfl (hb hby at_158) rfl (by decide) (by decide) (by decide) ?_
    show Steps p.tables e below (T3.setTop (mkF m 166 #[.val (.int p0), .val (.int (3 : Int32)), .val (.ref a_SET), .val (.int (1 : Int32)), .val (.int (1 : Int32))] [])) _
    refine XS.iconst X3.here hx rfl (hb hby at_166) ?_
    show Steps p.tables e below (T3.setTop (mkF m 167 #[.val (.int p0), .val (.int (3 : Int32)), .val (.ref a_SET), .val (.int (1 : Int32)), .val (.int (1 : Int32))] [(.int (1 : Int32))])) _
    refine XS.goto X3.here hx rfl (pc0 := 167) (pc' := 171) rfl (hb hby at_167) (by decide) (by decide) ?_
    show Steps p.tables e below (T3.setTop (mkF m 171 #[.val (.int p0), .val (.int (3 : Int32)), .val (.ref a_SET), .val (.int (1 : Int32)), .val (.int (1 : Int32))] [(.int (1 : Int32))])) _
    exact retN X3 hx (t := .boolean) Bd.returns (by simp) (hb hby at_171) hr
  · exact ⟨rfl, N3⟩
set_option maxRecDepth 65536 in
set_option maxHeartbeats 40000000 in
theorem rm2_4 (l : Launch) (Z : State) (a0 : Array Value) (hw : ∀ d ∈ tables_1, d.before a0 Z = true) (ws : List Jvm.Cond) (p0 : Int32) (a_ONE a_SET a_OPTIONAL a_ARRAY a_INT a_LIST a_BOOLEAN a_NOTHING a_STREAM a_LONG : Addr) (h0 : Heap) (n0 : Nat) (Z0 : n0 ≤ h0.size) (FF : Facts Z h0 a_ONE a_SET a_OPTIONAL a_ARRAY a_INT a_LIST a_BOOLEAN a_NOTHING a_STREAM a_LONG) :
    MetFree l (⟨"java/lang/Enum", "ordinal", "()I"⟩ : MethodName) (head1 (Jvm.Cond.code (⟨"java/lang/Enum", "ordinal", "()I"⟩ : MethodName) jdk_37_method_2_code 1 (some .int) :: ws) ({ frames := 0, cells := 0, slots := 0, locals := 0 } : Room)) (fun a U => a = #[(.ref a_ARRAY)] ∧ Z.Warmed39 U.vm ∧ U.heap = h0) (fun _ _ _ _ _ => True) (fun _ U o U' => ∃ v L, o = .returned v ∧ own_Q (.int (4 : Int32)) h0 n0 v U'.heap L ∧ FrameEnd U o U' L ({ frames := 0, cells := 0, slots := 0, locals := 0 } : Room).cells ({ frames := 0, cells := 0, slots := 0, locals := 0 } : Room).slots) := by
  refine MetFree.of_bodySF (plainFor_of_name pn_2) hisR ?_
  intro p e s m args below meth c s₁ Bd hml0 hP hK
  obtain ⟨rfl, hZ, hh⟩ := hP
  have hx := Bd.exec
  have hby := Bd.bytes
  have hml : c.maxLocals = 1 := hml0
  have hown : s.vm.findClass "java/lang/Enum" = some m.cls := findClass_of_methodNamed Bd.named
  have X0 : Stand p l e ({ frames := 0, cells := 0, slots := 0, locals := 0 } : Room) s m #[(.ref a_ARRAY)] below meth c s₁ [] 0 0 := Stand.of_body Bd
  have e0 : s₁.heap = h0 := by rw [← hh, Bd.state]; rfl
  have N0 := Fr.nil n0
  have pre0 : ∀ t, Steps p.tables e below (s₁.setTop (mkF m 0 #[.val (.ref a_ARRAY)] [])) t → Steps p.tables e below (s₁.setTop (entryFrame m #[(.ref a_ARRAY)] 1)) t := fun t k => castTop (ef_2 m a_ARRAY) k
  obtain ⟨T1, X1, e1, st1⟩ := getF X0 hx hZ hown (host := "") (Or.inl (hw _ (List.mem_of_getElem? (i := 16) rfl))) Via.refl e0 (fx_F_ARRAY_ordinal FF) (g := (mkF m 1 #[.val (.ref a_ARRAY)] [(.ref a_ARRAY)])) rfl rfl (hb hby d2_1)
  obtain ⟨fs, hr, hrun, hended, hW, hsame⟩ := X1.leave (v := some (.int (4 : Int32))) (fun h => by rw [Bd.returns] at h; cases h)
  refine ⟨_, _, pre0 _ ?_, hrun, hended, _, _, rfl, ?_, ⟨_, rfl⟩, hW, hsame.mono (by decide) (by decide)⟩
  · show Steps p.tables e below (s₁.setTop (mkF m 0 #[.val (.ref a_ARRAY)] [])) _
    refine XS.aloadN X0.here hx rfl (hb hby d2_0) rfl rfl ?_
    show Steps p.tables e below (s₁.setTop (mkF m 1 #[.val (.ref a_ARRAY)] [(.ref a_ARRAY)])) _
    refine st1 _ ?_
    show Steps p.tables e below (T1.setTop (mkF m 4 #[.val (.ref a_ARRAY)] [(.int (4 : Int32))])) _
    exact retI X1 hx Bd.returns (hb hby d2_4) hr
  · show own_Q _ _ _ _ T1.heap _
    exact ⟨rfl, N0, e1⟩
set_option maxRecDepth 65536 in
set_option maxHeartbeats 40000000 in
theorem rm1_4 (l : Launch) (Z : State) (a0 : Array Value) (hw : ∀ d ∈ tables_1, d.before a0 Z = true) (ws : List Jvm.Cond) (p0 : Int32) (a_ONE a_SET a_OPTIONAL a_ARRAY a_INT a_LIST a_BOOLEAN a_NOTHING a_STREAM a_LONG : Addr) (h0 : Heap) (n0 : Nat) (Z0 : n0 ≤ h0.size) (FF : Facts Z h0 a_ONE a_SET a_OPTIONAL a_ARRAY a_INT a_LIST a_BOOLEAN a_NOTHING a_STREAM a_LONG) :
    MetFree l (⟨"com/example/querywright/querywright/derived/ResultShape", "holdsRows", "()Z"⟩ : MethodName) (head1 (Jvm.Cond.code (⟨"com/example/querywright/querywright/derived/ResultShape", "holdsRows", "()Z"⟩ : MethodName) prog_24_method_6_code 1 (some .boolean) :: ws) ({ frames := 1, cells := 0, slots := 0, locals := 12 } : Room)) (fun a U => a = #[(.ref a_ARRAY)] ∧ Z.Warmed39 U.vm ∧ U.heap = h0) (fun _ _ _ _ _ => True) (fun _ U o U' => ∃ v L, o = .returned v ∧ own_Q (.int (1 : Int32)) h0 n0 v U'.heap L ∧ FrameEnd U o U' L ({ frames := 1, cells := 0, slots := 0, locals := 12 } : Room).cells ({ frames := 1, cells := 0, slots := 0, locals := 12 } : Room).slots) := by
  refine MetFree.of_bodySF (plainFor_of_name pn_1) hisR ?_
  intro p e s m args below meth c s₁ Bd hml0 hP hK
  obtain ⟨rfl, hZ, hh⟩ := hP
  have hx := Bd.exec
  have hby := Bd.bytes
  have hml : c.maxLocals = 1 := hml0
  have hown : s.vm.findClass "com/example/querywright/querywright/derived/ResultShape" = some m.cls := findClass_of_methodNamed Bd.named
  have X0 : Stand p l e ({ frames := 1, cells := 0, slots := 0, locals := 12 } : Room) s m #[(.ref a_ARRAY)] below meth c s₁ [] 0 0 := Stand.of_body Bd
  have e0 : s₁.heap = h0 := by rw [← hh, Bd.state]; rfl
  have N0 := Fr.nil n0
  have pre0 : ∀ t, Steps p.tables e below (s₁.setTop (mkF m 0 #[.val (.ref a_ARRAY)] [])) t → Steps p.tables e below (s₁.setTop (entryFrame m #[(.ref a_ARRAY)] 1)) t := fun t k => castTop (ef_1 m a_ARRAY) k
  obtain ⟨cq1, kq1, q1a, q1b, q1c⟩ := isOf hZ e0 (fx_E_ARRAY FF)
  obtain ⟨_, _, ⟨T1, L1, k1, n1⟩, -, X1, ⟨Lc1, hQ1, l1, y1, z1⟩, st1⟩ := X0.virtualBackUp hx (owner := "java/lang/Enum") (x := (⟨"com/example/querywright/querywright/derived/ResultShape", "ordinal", "()I"⟩ : MethodName)) (y := (⟨"java/lang/Enum", "ordinal", "()I"⟩ : MethodName)) hown (mvT hZ (hw _ (List.mem_of_getElem? (i := 9) rfl))) (mvT hZ (hw _ (List.mem_of_getElem? (i := 10) rfl))) (mvT hZ (hw _ (List.mem_of_getElem? (i := 11) rfl))) (by decide) (mvT hZ (hw _ (List.mem_of_getElem? (i := 13) rfl))) (mvT hZ (hw _ (List.mem_of_getElem? (i := 12) rfl))) (backOf (W := 0) (rm2_4 l Z a0 hw [] p0 a_ONE a_SET a_OPTIONAL a_ARRAY a_INT a_LIST a_BOOLEAN a_NOTHING a_STREAM a_LONG h0 n0 (Nat.le_trans Z0 (Nat.le_refl _)) FF) hZ (hw _ (List.mem_of_getElem? (i := 15) rfl)) (hw _ (List.mem_of_getElem? (i := 14) rfl)) (by decide) (by decide)) q1a q1c (g := (mkF m 1 #[.val (.ref a_ARRAY)] [(.ref a_ARRAY)])) rfl (by rw [hml]; rfl) (Steps.refl _) (argsL := []) (rest := []) (lenOf pd_0 rfl) rfl (by show 2 * 0 + _ ≤ _; exact Nat.le_of_eq rfl) (hb hby d1_1) (fun _ _ => ⟨rfl, e0, (by decide : 0 + 0 ≤ _), (by decide : 0 + 0 ≤ _)⟩)
  dsimp only [Pt.U, Pt.locs, Pt.cells, Pt.slots] at X1 l1 y1 z1 st1 hQ1
  subst l1 y1 z1
  obtain ⟨rfl, N1q, e1⟩ := hQ1
  have N1 := Fr.app N0 N1q
  obtain ⟨fs, hr, hrun, hended, hW, hsame⟩ := X1.leave (v := some (.int (1 : Int32))) (fun h => by rw [Bd.returns] at h; cases h)
  refine ⟨_, _, pre0 _ ?_, hrun, hended, _, _, rfl, ?_, ⟨_, rfl⟩, hW, hsame.mono (by decide) (by decide)⟩
  · show Steps p.tables e below (s₁.setTop (mkF m 0 #[.val (.ref a_ARRAY)] [])) _
    refine XS.aloadN X0.here hx rfl (hb hby d1_0) rfl rfl ?_
    show Steps p.tables e below (s₁.setTop (mkF m 1 #[.val (.ref a_ARRAY)] [(.ref a_ARRAY)])) _
    refine st1.trans ?_
    show Steps p.tables e below (T1.setTop (mkF m 4 #[.val (.ref a_ARRAY)] [(.int (4 : Int32))])) _
    refine XS.tswIn X1.here hx rfl (o := 66) (pc0 := 4) (pc' := 70) rfl (hb hby d1_4) rfl (by decide) rfl (by decide) (by decide) ?_
    show Steps p.tables e below (T1.setTop (mkF m 70 #[.val (.ref a_ARRAY)] [])) _
    refine XS.iconst X1.here hx rfl (hb hby d1_70) ?_
    show Steps p.tables e below (T1.setTop (mkF m 71 #[.val (.ref a_ARRAY)] [(.int (1 : Int32))])) _
    refine XS.goto X1.here hx rfl (pc0 := 71) (pc' := 75) rfl (hb hby d1_71) (by decide) (by decide) ?_
    show Steps p.tables e below (T1.setTop (mkF m 75 #[.val (.ref a_ARRAY)] [(.int (1 : Int32))])) _
    exact retN X1 hx (t := .boolean) Bd.returns (by simp) (hb hby d1_75) hr
  · show own_Q _ _ _ _ T1.heap _
    exact ⟨rfl, N1, e1⟩
set_option maxRecDepth 65536 in
set_option maxHeartbeats 40000000 in
theorem rm3_4 (l : Launch) (Z : State) (a0 : Array Value) (hw : ∀ d ∈ tables_1, d.before a0 Z = true) (ws : List Jvm.Cond) (p0 : Int32) (a_ONE a_SET a_OPTIONAL a_ARRAY a_INT a_LIST a_BOOLEAN a_NOTHING a_STREAM a_LONG : Addr) (h0 : Heap) (n0 : Nat) (Z0 : n0 ≤ h0.size) (FF : Facts Z h0 a_ONE a_SET a_OPTIONAL a_ARRAY a_INT a_LIST a_BOOLEAN a_NOTHING a_STREAM a_LONG) :
    MetFree l (⟨"com/example/querywright/querywright/derived/ResultShape", "isSingle", "()Z"⟩ : MethodName) (head1 (Jvm.Cond.code (⟨"com/example/querywright/querywright/derived/ResultShape", "isSingle", "()Z"⟩ : MethodName) prog_24_method_7_code 1 (some .boolean) :: ws) ({ frames := 0, cells := 0, slots := 0, locals := 0 } : Room)) (fun a U => a = #[(.ref a_ARRAY)] ∧ Z.Warmed39 U.vm ∧ U.heap = h0) (fun _ _ _ _ _ => True) (fun _ U o U' => ∃ v L, o = .returned v ∧ own_Q (.int (0 : Int32)) h0 n0 v U'.heap L ∧ FrameEnd U o U' L ({ frames := 0, cells := 0, slots := 0, locals := 0 } : Room).cells ({ frames := 0, cells := 0, slots := 0, locals := 0 } : Room).slots) := by
  refine MetFree.of_bodySF (plainFor_of_name pn_3) hisR ?_
  intro p e s m args below meth c s₁ Bd hml0 hP hK
  obtain ⟨rfl, hZ, hh⟩ := hP
  have hx := Bd.exec
  have hby := Bd.bytes
  have hml : c.maxLocals = 1 := hml0
  have hown : s.vm.findClass "com/example/querywright/querywright/derived/ResultShape" = some m.cls := findClass_of_methodNamed Bd.named
  have X0 : Stand p l e ({ frames := 0, cells := 0, slots := 0, locals := 0 } : Room) s m #[(.ref a_ARRAY)] below meth c s₁ [] 0 0 := Stand.of_body Bd
  have e0 : s₁.heap = h0 := by rw [← hh, Bd.state]; rfl
  have N0 := Fr.nil n0
  have pre0 : ∀ t, Steps p.tables e below (s₁.setTop (mkF m 0 #[.val (.ref a_ARRAY)] [])) t → Steps p.tables e below (s₁.setTop (entryFrame m #[(.ref a_ARRAY)] 1)) t := fun t k => castTop (ef_3 m a_ARRAY) k
  obtain ⟨T1, X1, e1, st1⟩ := getS2 X0 hx hZ hown (host := "") (Or.inl (hw _ (List.mem_of_getElem? (i := 23) rfl))) Via.refl e0 (fx_S_ONE FF) (g := (mkF m 1 #[.val (.ref a_ARRAY)] [(.ref a_ARRAY)])) rfl (hb hby d3_1)
  obtain ⟨T2, X2, e2, st2⟩ := getS2 X1 hx hZ hown (host := "") (Or.inl (hw _ (List.mem_of_getElem? (i := 26) rfl))) Via.refl e1 (fx_S_OPTIONAL FF) (g := (mkF m 8 #[.val (.ref a_ARRAY)] [(.ref a_ARRAY)])) rfl (hb hby d3_8)
  obtain ⟨fs, hr, hrun, hended, hW, hsame⟩ := X2.leave (v := some (.int (0 : Int32))) (fun h => by rw [Bd.returns] at h; cases h)
  refine ⟨_, _, pre0 _ ?_, hrun, hended, _, _, rfl, ?_, ⟨_, rfl⟩, hW, hsame.mono (by decide) (by decide)⟩
  · show Steps p.tables e below (s₁.setTop (mkF m 0 #[.val (.ref a_ARRAY)] [])) _
    refine XS.aloadN X0.here hx rfl (hb hby d3_0) rfl rfl ?_
    show Steps p.tables e below (s₁.setTop (mkF m 1 #[.val (.ref a_ARRAY)] [(.ref a_ARRAY)])) _
    refine st1 _ ?_
    show Steps p.tables e below (T1.setTop (mkF m 4 #[.val (.ref a_ARRAY)] [(.ref a_ONE), (.ref a_ARRAY)])) _
    refine Jvm.RoadKit.acmp (g := (mkF m 4 #[.val (.ref a_ARRAY)] [(.ref a_ONE), (.ref a_ARRAY)])) X1 hx rfl rfl rfl (pc0 := 4) (pc' := 7) (same := false) rfl (hb hby d3_4) rfl (decide_eq_false fun q => Fld.ne (fx_F_ARRAY_ordinal FF) (fx_F_ONE_ordinal FF) (by decide) (Value.ref.inj q)) (by decide) (by decide) ?_
    show Steps p.tables e below (T1.setTop (mkF m 7 #[.val (.ref a_ARRAY)] [])) _
    refine XS.aloadN X1.here hx rfl (hb hby d3_7) rfl rfl ?_
    show Steps p.tables e below (T1.setTop (mkF m 8 #[.val (.ref a_ARRAY)] [(.ref a_ARRAY)])) _
    refine st2 _ ?_
    show Steps p.tables e below (T2.setTop (mkF m 11 #[.val (.ref a_ARRAY)] [(.ref a_OPTIONAL), (.ref a_ARRAY)])) _
    refine Jvm.RoadKit.acmp (g := (mkF m 11 #[.val (.ref a_ARRAY)] [(.ref a_OPTIONAL), (.ref a_ARRAY)])) X2 hx rfl rfl rfl (pc0 := 11) (pc' := 18) (same := false) rfl (hb hby d3_11) rfl (decide_eq_false fun q => Fld.ne (fx_F_ARRAY_ordinal FF) (fx_F_OPTIONAL_ordinal FF) (by decide) (Value.ref.inj q)) (by decide) (by decide) ?_
    show Steps p.tables e below (T2.setTop (mkF m 18 #[.val (.ref a_ARRAY)] [])) _
    refine XS.iconst X2.here hx rfl (hb hby d3_18) ?_
    show Steps p.tables e below (T2.setTop (mkF m 19 #[.val (.ref a_ARRAY)] [(.int (0 : Int32))])) _
    exact retN X2 hx (t := .boolean) Bd.returns (by simp) (hb hby d3_19) hr
  · show own_Q _ _ _ _ T2.heap _
    exact ⟨rfl, N0, e2⟩
set_option maxRecDepth 65536 in
set_option maxHeartbeats 40000000 in
theorem rm0_4 (l : Launch) (Z : State) (a0 : Array Value) (hw : ∀ d ∈ tables_1, d.before a0 Z = true) (ws : List Jvm.Cond) (p0 : Int32) (a_ONE a_SET a_OPTIONAL a_ARRAY a_INT a_LIST a_BOOLEAN a_NOTHING a_STREAM a_LONG : Addr) (h0 : Heap) (n0 : Nat) (Z0 : n0 ≤ h0.size) (FF : Facts Z h0 a_ONE a_SET a_OPTIONAL a_ARRAY a_INT a_LIST a_BOOLEAN a_NOTHING a_STREAM a_LONG) (hk0 : ((p0 &&& (2147483647 : Int32)) % (10 : Int32)) = (4 : Int32)) :
    MetFree l x (head1 (Jvm.Cond.code x code maxLocals ret :: ws) room_1) (fun a U => a = #[(.int p0)] ∧ Z.Warmed39 U.vm ∧ U.heap = h0) (fun _ _ _ _ _ => True) (fun _ U o U' => ∃ v L, o = .returned v ∧ (v = some (.int (1 : Int32)) ∧ Fr n0 L) ∧ FrameEnd U o U' L room_1.cells room_1.slots) := by
  refine MetFree.of_bodySF (plainFor_of_name pn_0) hisR ?_
  intro p e s m args below meth c s₁ Bd hml0 hP hK
  obtain ⟨rfl, hZ, hh⟩ := hP
  have hx := Bd.exec
  have hby := Bd.bytes
  have hml : c.maxLocals = 5 := hml0
  have hown : s.vm.findClass "com/example/querywright/querywright/derived/ResultShapeHoldsRowsPinLaw" = some m.cls := findClass_of_methodNamed Bd.named
  have X0 : Stand p l e room_1 s m #[(.int p0)] below meth c s₁ [] 0 0 := Stand.of_body Bd
  have e0 : s₁.heap = h0 := by rw [← hh, Bd.state]; rfl
  have N0 := Fr.nil n0
  have pre0 : ∀ t, Steps p.tables e below (s₁.setTop (mkF m 0 #[.val (.int p0), .unset, .unset, .unset, .unset] [])) t → Steps p.tables e below (s₁.setTop (entryFrame m #[(.int p0)] maxLocals)) t := fun t k => castTop (ef_0 m p0) k
  obtain ⟨T1, X1, e1, st1⟩ := getS2 X0 hx hZ hown (host := "") (Or.inl (hw _ (List.mem_of_getElem? (i := 29) rfl))) Via.refl e0 (fx_S_ARRAY FF) (g := (mkF m 68 #[.val (.int p0), .val (.int (4 : Int32)), .unset, .unset, .unset] [])) rfl (hb hby at_68)
  obtain ⟨cq2, kq2, q2a, q2b, q2c⟩ := isOf hZ e1 (fx_E_ARRAY FF)
  obtain ⟨_, _, ⟨T2, L2, k2, n2⟩, -, X2, ⟨Lc2, hQ2, l2, y2, z2⟩, st2⟩ := X1.virtualBack hx (y := (⟨"com/example/querywright/querywright/derived/ResultShape", "holdsRows", "()Z"⟩ : MethodName)) (z := (⟨"com/example/querywright/querywright/derived/ResultShape", "holdsRows", "()Z"⟩ : MethodName)) hown (mvT hZ (hw _ (List.mem_of_getElem? (i := 4) rfl))) (mvT hZ (hw _ (List.mem_of_getElem? (i := 5) rfl))) (notFace_of_selects (args := #[]) (mvT hZ (hw _ (List.mem_of_getElem? (i := 7) rfl)))) (mvT hZ (hw _ (List.mem_of_getElem? (i := 7) rfl))) (mvT hZ (hw _ (List.mem_of_getElem? (i := 6) rfl))) (by decide) (backOf (W := 0) (rm1_4 l Z a0 hw [] p0 a_ONE a_SET a_OPTIONAL a_ARRAY a_INT a_LIST a_BOOLEAN a_NOTHING a_STREAM a_LONG h0 n0 (Nat.le_trans Z0 (Nat.le_refl _)) FF) hZ (hw _ (List.mem_of_getElem? (i := 8) rfl)) (hw _ (List.mem_of_getElem? (i := 2) rfl)) (by decide) (by decide)) q2a q2c (g := (mkF m 143 #[.val (.int p0), .val (.int (4 : Int32)), .val (.ref a_ARRAY), .val (.int (1 : Int32)), .unset] [(.ref a_ARRAY)])) rfl (by rw [hml]; rfl) (Steps.refl _) (argsL := []) (rest := []) (lenOf pd_1 rfl) rfl (by show 2 * 0 + _ ≤ _; exact Nat.le_of_eq rfl) (hb hby at_143) (fun _ _ => ⟨rfl, e1, (by decide : 0 + 0 ≤ _), (by decide : 0 + 0 ≤ _)⟩)
  dsimp only [Pt.U, Pt.locs, Pt.cells, Pt.slots] at X2 l2 y2 z2 st2 hQ2
  subst l2 y2 z2
  obtain ⟨rfl, N2q, e2⟩ := hQ2
  have N2 := Fr.app N0 N2q
  obtain ⟨cq3, kq3, q3a, q3b, q3c⟩ := isOf hZ e2 (fx_E_ARRAY FF)
  obtain ⟨_, _, ⟨T3, L3, k3, n3⟩, -, X3, ⟨Lc3, hQ3, l3, y3, z3⟩, st3⟩ := X2.virtualBack hx (y := (⟨"com/example/querywright/querywright/derived/ResultShape", "isSingle", "()Z"⟩ : MethodName)) (z := (⟨"com/example/querywright/querywright/derived/ResultShape", "isSingle", "()Z"⟩ : MethodName)) hown (mvT hZ (hw _ (List.mem_of_getElem? (i := 18) rfl))) (mvT hZ (hw _ (List.mem_of_getElem? (i := 19) rfl))) (notFace_of_selects (args := #[]) (mvT hZ (hw _ (List.mem_of_getElem? (i := 21) rfl)))) (mvT hZ (hw _ (List.mem_of_getElem? (i := 21) rfl))) (mvT hZ (hw _ (List.mem_of_getElem? (i := 20) rfl))) (by decide) (backOf (W := 0) (rm3_4 l Z a0 hw [] p0 a_ONE a_SET a_OPTIONAL a_ARRAY a_INT a_LIST a_BOOLEAN a_NOTHING a_STREAM a_LONG h0 n0 (Nat.le_trans Z0 (Nat.le_refl _)) FF) hZ (hw _ (List.mem_of_getElem? (i := 22) rfl)) (hw _ (List.mem_of_getElem? (i := 2) rfl)) (by decide) (by decide)) q3a q3c (g := (mkF m 155 #[.val (.int p0), .val (.int (4 : Int32)), .val (.ref a_ARRAY), .val (.int (1 : Int32)), .val (.int (1 : Int32))] [(.ref a_ARRAY)])) rfl (by rw [hml]; rfl) (Steps.refl _) (argsL := []) (rest := []) (lenOf pd_1 rfl) rfl (by show 2 * 0 + _ ≤ _; exact Nat.le_of_eq rfl) (hb hby at_155) (fun _ _ => ⟨rfl, e2, (by decide : 0 + 0 ≤ _), (by decide : 0 + 0 ≤ _)⟩)
  dsimp only [Pt.U, Pt.locs, Pt.cells, Pt.slots] at X3 l3 y3 z3 st3 hQ3
  subst l3 y3 z3
  obtain ⟨rfl, N3q, e3⟩ := hQ3
  have N3 := Fr.app N2 N3q
  obtain ⟨fs, hr, hrun, hended, hW, hsame⟩ := X3.leave (v := some (.int (1 : Int32))) (fun h => by rw [Bd.returns] at h; cases h)
  refine ⟨_, _, pre0 _ ?_, hrun, hended, _, _, rfl, ?_, ⟨_, rfl⟩, hW, hsame.mono (by decide) (by decide)⟩
  · show Steps p.tables e below (s₁.setTop (mkF m 0 #[.val (.int p0), .unset, .unset, .unset, .unset] [])) _
    refine XS.iloadN X0.here hx rfl (hb hby at_0) rfl ?_
    show Steps p.tables e below (s₁.setTop (mkF m 1 #[.val (.int p0), .unset, .unset, .unset, .unset] [(.int p0)])) _
    refine X0.ldcInt hx hown (mvT hZ (hw _ (List.mem_of_getElem? (i := 0) rfl))) (g := (mkF m 1 #[.val (.int p0), .unset, .unset, .unset, .unset] [(.int p0)])) rfl (hb hby at_1) _ ?_
    show Steps p.tables e below (s₁.setTop (mkF m 3 #[.val (.int p0), .unset, .unset, .unset, .unset] [(.int (2147483647 : Int32)), (.int p0)])) _
    refine XS.iand X0.here hx rfl (hb hby at_3) rfl ?_
    show Steps p.tables e below (s₁.setTop (mkF m 4 #[.val (.int p0), .unset, .unset, .unset, .unset] [(.int (p0 &&& (2147483647 : Int32)))])) _
    refine XS.bipush X0.here hx rfl (hb hby at_4) ?_
    show Steps p.tables e below (s₁.setTop (mkF m 6 #[.val (.int p0), .unset, .unset, .unset, .unset] [(.int (10 : Int32)), (.int (p0 &&& (2147483647 : Int32)))])) _
    refine iremM X0 hx rfl (hb hby at_6) rfl (by decide) ?_
    show Steps p.tables e below (s₁.setTop (mkF m 7 #[.val (.int p0), .unset, .unset, .unset, .unset] [(.int ((p0 &&& (2147483647 : Int32)) % (10 : Int32)))])) _
    rw [hk0]
    show Steps p.tables e below (s₁.setTop (mkF m 7 #[.val (.int p0), .unset, .unset, .unset, .unset] [(.int (4 : Int32))])) _
    refine XS.istoreN X0.here hx rfl (hb hby at_7) rfl (l' := #[.val (.int p0), .val (.int (4 : Int32)), .unset, .unset, .unset]) rfl ?_
    show Steps p.tables e below (s₁.setTop (mkF m 8 #[.val (.int p0), .val (.int (4 : Int32)), .unset, .unset, .unset] [])) _
    refine XS.iloadN X0.here hx rfl (hb hby at_8) rfl ?_
    show Steps p.tables e below (s₁.setTop (mkF m 9 #[.val (.int p0), .val (.int (4 : Int32)), .unset, .unset, .unset] [(.int (4 : Int32))])) _
    refine XS.ifYes X0.here hx rfl (pc0 := 9) (pc' := 21) rfl (hb hby at_9) rfl (by decide) (by decide) (by decide) ?_
    show Steps p.tables e below (s₁.setTop (mkF m 21 #[.val (.int p0), .val (.int (4 : Int32)), .unset, .unset, .unset] [])) _
    refine XS.iloadN X0.here hx rfl (hb hby at_21) rfl ?_
    show Steps p.tables e below (s₁.setTop (mkF m 22 #[.val (.int p0), .val (.int (4 : Int32)), .unset, .unset, .unset] [(.int (4 : Int32))])) _
    refine XS.iconst X0.here hx rfl (hb hby at_22) ?_
    show Steps p.tables e below (s₁.setTop (mkF m 23 #[.val (.int p0), .val (.int (4 : Int32)), .unset, .unset, .unset] [(.int (1 : Int32)), (.int (4 : Int32))])) _
    refine XS.icmpYes X0.here hx rfl (pc0 := 23) (pc' := 35) rfl (hb hby at_23) rfl (by decide) (by decide) (by decide) ?_
    show Steps p.tables e below (s₁.setTop (mkF m 35 #[.val (.int p0), .val (.int (4 : Int32)), .unset, .unset, .unset] [])) _
    refine XS.iloadN X0.here hx rfl (hb hby at_35) rfl ?_
    show Steps p.tables e below (s₁.setTop (mkF m 36 #[.val (.int p0), .val (.int (4 : Int32)), .unset, .unset, .unset] [(.int (4 : Int32))])) _
    refine XS.iconst X0.here hx rfl (hb hby at_36) ?_
    show Steps p.tables e below (s₁.setTop (mkF m 37 #[.val (.int p0), .val (.int (4 : Int32)), .unset, .unset, .unset] [(.int (2 : Int32)), (.int (4 : Int32))])) _
    refine XS.icmpYes X0.here hx rfl (pc0 := 37) (pc' := 49) rfl (hb hby at_37) rfl (by decide) (by decide) (by decide) ?_
    show Steps p.tables e below (s₁.setTop (mkF m 49 #[.val (.int p0), .val (.int (4 : Int32)), .unset, .unset, .unset] [])) _
    refine XS.iloadN X0.here hx rfl (hb hby at_49) rfl ?_
    show Steps p.tables e below (s₁.setTop (mkF m 50 #[.val (.int p0), .val (.int (4 : Int32)), .unset, .unset, .unset] [(.int (4 : Int32))])) _
    refine XS.iconst X0.here hx rfl (hb hby at_50) ?_
    show Steps p.tables e below (s₁.setTop (mkF m 51 #[.val (.int p0), .val (.int (4 : Int32)), .unset, .unset, .unset] [(.int (3 : Int32)), (.int (4 : Int32))])) _
    refine XS.icmpYes X0.here hx rfl (pc0 := 51) (pc' := 63) rfl (hb hby at_51) rfl (by decide) (by decide) (by decide) ?_
    show Steps p.tables e below (s₁.setTop (mkF m 63 #[.val (.int p0), .val (.int (4 : Int32)), .unset, .unset, .unset] [])) _
    refine XS.iloadN X0.here hx rfl (hb hby at_63) rfl ?_
    show Steps p.tables e below (s₁.setTop (mkF m 64 #[.val (.int p0), .val (.int (4 : Int32)), .unset, .unset, .unset] [(.int (4 : Int32))])) _
    refine XS.iconst X0.here hx rfl (hb hby at_64) ?_
    show Steps p.tables e below (s₁.setTop (mkF m 65 #[.val (.int p0), .val (.int (4 : Int32)), .unset, .unset, .unset] [(.int (4 : Int32)), (.int (4 : Int32))])) _
    refine XS.icmpNo X0.here hx rfl (hb hby at_65) rfl (by decide) ?_
    show Steps p.tables e below (s₁.setTop (mkF m 68 #[.val (.int p0), .val (.int (4 : Int32)), .unset, .unset, .unset] [])) _
    refine st1 _ ?_
    show Steps p.tables e below (T1.setTop (mkF m 71 #[.val (.int p0), .val (.int (4 : Int32)), .unset, .unset, .unset] [(.ref a_ARRAY)])) _
    refine XS.astoreN X1.here hx rfl (hb hby at_71) rfl rfl (l' := #[.val (.int p0), .val (.int (4 : Int32)), .val (.ref a_ARRAY), .unset, .unset]) rfl ?_
    show Steps p.tables e below (T1.setTop (mkF m 72 #[.val (.int p0), .val (.int (4 : Int32)), .val (.ref a_ARRAY), .unset, .unset] [])) _
    refine XS.iconst X1.here hx rfl (hb hby at_72) ?_
    show Steps p.tables e below (T1.setTop (mkF m 73 #[.val (.int p0), .val (.int (4 : Int32)), .val (.ref a_ARRAY), .unset, .unset] [(.int (1 : Int32))])) _
    refine XS.istoreN X1.here hx rfl (hb hby at_73) rfl (l' := #[.val (.int p0), .val (.int (4 : Int32)), .val (.ref a_ARRAY), .val (.int (1 : Int32)), .unset]) rfl ?_
    show Steps p.tables e below (T1.setTop (mkF m 74 #[.val (.int p0), .val (.int (4 : Int32)), .val (.ref a_ARRAY), .val (.int (1 : Int32)), .unset] [])) _
    refine XS.goto X1.here hx rfl (pc0 := 74) (pc' := 142) rfl (hb hby at_74) (by decide) (by decide) ?_
    show Steps p.tables e below (T1.setTop (mkF m 142 #[.val (.int p0), .val (.int (4 : Int32)), .val (.ref a_ARRAY), .val (.int (1 : Int32)), .unset] [])) _
    refine XS.aloadN X1.here hx rfl (hb hby at_142) rfl rfl ?_
    show Steps p.tables e below (T1.setTop (mkF m 143 #[.val (.int p0), .val (.int (4 : Int32)), .val (.ref a_ARRAY), .val (.int (1 : Int32)), .unset] [(.ref a_ARRAY)])) _
    refine st2.trans ?_
    show Steps p.tables e below (T2.setTop (mkF m 146 #[.val (.int p0), .val (.int (4 : Int32)), .val (.ref a_ARRAY), .val (.int (1 : Int32)), .unset] [(.int (1 : Int32))])) _
    refine XS.istore X2.here hx rfl (hb hby at_146) rfl (l' := #[.val (.int p0), .val (.int (4 : Int32)), .val (.ref a_ARRAY), .val (.int (1 : Int32)), .val (.int (1 : Int32))]) rfl ?_
    show Steps p.tables e below (T2.setTop (mkF m 148 #[.val (.int p0), .val (.int (4 : Int32)), .val (.ref a_ARRAY), .val (.int (1 : Int32)), .val (.int (1 : Int32))] [])) _
    refine XS.iload X2.here hx rfl (hb hby at_148) rfl ?_
    show Steps p.tables e below (T2.setTop (mkF m 150 #[.val (.int p0), .val (.int (4 : Int32)), .val (.ref a_ARRAY), .val (.int (1 : Int32)), .val (.int (1 : Int32))] [(.int (1 : Int32))])) _
    refine XS.iloadN X2.here hx rfl (hb hby at_150) rfl ?_
    show Steps p.tables e below (T2.setTop (mkF m 151 #[.val (.int p0), .val (.int (4 : Int32)), .val (.ref a_ARRAY), .val (.int (1 : Int32)), .val (.int (1 : Int32))] [(.int (1 : Int32)), (.int (1 : Int32))])) _
    refine XS.icmpNo X2.here hx rfl (hb hby at_151) rfl (by decide) ?_
    show Steps p.tables e below (T2.setTop (mkF m 154 #[.val (.int p0), .val (.int (4 : Int32)), .val (.ref a_ARRAY), .val (.int (1 : Int32)), .val (.int (1 : Int32))] [])) _
    refine XS.aloadN X2.here hx rfl (hb hby at_154) rfl rfl ?_
    show Steps p.tables e below (T2.setTop (mkF m 155 #[.val (.int p0), .val (.int (4 : Int32)), .val (.ref a_ARRAY), .val (.int (1 : Int32)), .val (.int (1 : Int32))] [(.ref a_ARRAY)])) _
    refine st3.trans ?_
    show Steps p.tables e below (T3.setTop (mkF m 158 #[.val (.int p0), .val (.int (4 : Int32)), .val (.ref a_ARRAY), .val (.int (1 : Int32)), .val (.int (1 : Int32))] [(.int (0 : Int32))])) _
    refine XS.ifYes X3.here hx rfl (pc0 := 158) (pc' := 166) rfl (hb hby at_158) rfl (by decide) (by decide) (by decide) ?_
    show Steps p.tables e below (T3.setTop (mkF m 166 #[.val (.int p0), .val (.int (4 : Int32)), .val (.ref a_ARRAY), .val (.int (1 : Int32)), .val (.int (1 : Int32))] [])) _
    refine XS.iconst X3.here hx rfl (hb hby at_166) ?_
    show Steps p.tables e below (T3.setTop (mkF m 167 #[.val (.int p0), .val (.int (4 : Int32)), .val (.ref a_ARRAY), .val (.int (1 : Int32)), .val (.int (1 : Int32))] [(.int (1 : Int32))])) _
    refine XS.goto X3.here hx rfl (pc0 := 167) (pc' := 171) rfl (hb hby at_167) (by decide) (by decide) ?_
    show Steps p.tables e below (T3.setTop (mkF m 171 #[.val (.int p0), .val (.int (4 : Int32)), .val (.ref a_ARRAY), .val (.int (1 : Int32)), .val (.int (1 : Int32))] [(.int (1 : Int32))])) _
    exact retN X3 hx (t := .boolean) Bd.returns (by simp) (hb hby at_171) hr
  · exact ⟨rfl, N3⟩
set_option maxRecDepth 65536 in
set_option maxHeartbeats 40000000 in
theorem rm2_5 (l : Launch) (Z : State) (a0 : Array Value) (hw : ∀ d ∈ tables_1, d.before a0 Z = true) (ws : List Jvm.Cond) (p0 : Int32) (a_ONE a_SET a_OPTIONAL a_ARRAY a_INT a_LIST a_BOOLEAN a_NOTHING a_STREAM a_LONG : Addr) (h0 : Heap) (n0 : Nat) (Z0 : n0 ≤ h0.size) (FF : Facts Z h0 a_ONE a_SET a_OPTIONAL a_ARRAY a_INT a_LIST a_BOOLEAN a_NOTHING a_STREAM a_LONG) :
    MetFree l (⟨"java/lang/Enum", "ordinal", "()I"⟩ : MethodName) (head1 (Jvm.Cond.code (⟨"java/lang/Enum", "ordinal", "()I"⟩ : MethodName) jdk_37_method_2_code 1 (some .int) :: ws) ({ frames := 0, cells := 0, slots := 0, locals := 0 } : Room)) (fun a U => a = #[(.ref a_STREAM)] ∧ Z.Warmed39 U.vm ∧ U.heap = h0) (fun _ _ _ _ _ => True) (fun _ U o U' => ∃ v L, o = .returned v ∧ own_Q (.int (5 : Int32)) h0 n0 v U'.heap L ∧ FrameEnd U o U' L ({ frames := 0, cells := 0, slots := 0, locals := 0 } : Room).cells ({ frames := 0, cells := 0, slots := 0, locals := 0 } : Room).slots) := by
  refine MetFree.of_bodySF (plainFor_of_name pn_2) hisR ?_
  intro p e s m args below meth c s₁ Bd hml0 hP hK
  obtain ⟨rfl, hZ, hh⟩ := hP
  have hx := Bd.exec
  have hby := Bd.bytes
  have hml : c.maxLocals = 1 := hml0
  have hown : s.vm.findClass "java/lang/Enum" = some m.cls := findClass_of_methodNamed Bd.named
  have X0 : Stand p l e ({ frames := 0, cells := 0, slots := 0, locals := 0 } : Room) s m #[(.ref a_STREAM)] below meth c s₁ [] 0 0 := Stand.of_body Bd
  have e0 : s₁.heap = h0 := by rw [← hh, Bd.state]; rfl
  have N0 := Fr.nil n0
  have pre0 : ∀ t, Steps p.tables e below (s₁.setTop (mkF m 0 #[.val (.ref a_STREAM)] [])) t → Steps p.tables e below (s₁.setTop (entryFrame m #[(.ref a_STREAM)] 1)) t := fun t k => castTop (ef_2 m a_STREAM) k
  obtain ⟨T1, X1, e1, st1⟩ := getF X0 hx hZ hown (host := "") (Or.inl (hw _ (List.mem_of_getElem? (i := 16) rfl))) Via.refl e0 (fx_F_STREAM_ordinal FF) (g := (mkF m 1 #[.val (.ref a_STREAM)] [(.ref a_STREAM)])) rfl rfl (hb hby d2_1)
  obtain ⟨fs, hr, hrun, hended, hW, hsame⟩ := X1.leave (v := some (.int (5 : Int32))) (fun h => by rw [Bd.returns] at h; cases h)
  refine ⟨_, _, pre0 _ ?_, hrun, hended, _, _, rfl, ?_, ⟨_, rfl⟩, hW, hsame.mono (by decide) (by decide)⟩
  · show Steps p.tables e below (s₁.setTop (mkF m 0 #[.val (.ref a_STREAM)] [])) _
    refine XS.aloadN X0.here hx rfl (hb hby d2_0) rfl rfl ?_
    show Steps p.tables e below (s₁.setTop (mkF m 1 #[.val (.ref a_STREAM)] [(.ref a_STREAM)])) _
    refine st1 _ ?_
    show Steps p.tables e below (T1.setTop (mkF m 4 #[.val (.ref a_STREAM)] [(.int (5 : Int32))])) _
    exact retI X1 hx Bd.returns (hb hby d2_4) hr
  · show own_Q _ _ _ _ T1.heap _
    exact ⟨rfl, N0, e1⟩
set_option maxRecDepth 65536 in
set_option maxHeartbeats 40000000 in
theorem rm1_5 (l : Launch) (Z : State) (a0 : Array Value) (hw : ∀ d ∈ tables_1, d.before a0 Z = true) (ws : List Jvm.Cond) (p0 : Int32) (a_ONE a_SET a_OPTIONAL a_ARRAY a_INT a_LIST a_BOOLEAN a_NOTHING a_STREAM a_LONG : Addr) (h0 : Heap) (n0 : Nat) (Z0 : n0 ≤ h0.size) (FF : Facts Z h0 a_ONE a_SET a_OPTIONAL a_ARRAY a_INT a_LIST a_BOOLEAN a_NOTHING a_STREAM a_LONG) :
    MetFree l (⟨"com/example/querywright/querywright/derived/ResultShape", "holdsRows", "()Z"⟩ : MethodName) (head1 (Jvm.Cond.code (⟨"com/example/querywright/querywright/derived/ResultShape", "holdsRows", "()Z"⟩ : MethodName) prog_24_method_6_code 1 (some .boolean) :: ws) ({ frames := 1, cells := 0, slots := 0, locals := 12 } : Room)) (fun a U => a = #[(.ref a_STREAM)] ∧ Z.Warmed39 U.vm ∧ U.heap = h0) (fun _ _ _ _ _ => True) (fun _ U o U' => ∃ v L, o = .returned v ∧ own_Q (.int (1 : Int32)) h0 n0 v U'.heap L ∧ FrameEnd U o U' L ({ frames := 1, cells := 0, slots := 0, locals := 12 } : Room).cells ({ frames := 1, cells := 0, slots := 0, locals := 12 } : Room).slots) := by
  refine MetFree.of_bodySF (plainFor_of_name pn_1) hisR ?_
  intro p e s m args below meth c s₁ Bd hml0 hP hK
  obtain ⟨rfl, hZ, hh⟩ := hP
  have hx := Bd.exec
  have hby := Bd.bytes
  have hml : c.maxLocals = 1 := hml0
  have hown : s.vm.findClass "com/example/querywright/querywright/derived/ResultShape" = some m.cls := findClass_of_methodNamed Bd.named
  have X0 : Stand p l e ({ frames := 1, cells := 0, slots := 0, locals := 12 } : Room) s m #[(.ref a_STREAM)] below meth c s₁ [] 0 0 := Stand.of_body Bd
  have e0 : s₁.heap = h0 := by rw [← hh, Bd.state]; rfl
  have N0 := Fr.nil n0
  have pre0 : ∀ t, Steps p.tables e below (s₁.setTop (mkF m 0 #[.val (.ref a_STREAM)] [])) t → Steps p.tables e below (s₁.setTop (entryFrame m #[(.ref a_STREAM)] 1)) t := fun t k => castTop (ef_1 m a_STREAM) k
  obtain ⟨cq1, kq1, q1a, q1b, q1c⟩ := isOf hZ e0 (fx_E_STREAM FF)
  obtain ⟨_, _, ⟨T1, L1, k1, n1⟩, -, X1, ⟨Lc1, hQ1, l1, y1, z1⟩, st1⟩ := X0.virtualBackUp hx (owner := "java/lang/Enum") (x := (⟨"com/example/querywright/querywright/derived/ResultShape", "ordinal", "()I"⟩ : MethodName)) (y := (⟨"java/lang/Enum", "ordinal", "()I"⟩ : MethodName)) hown (mvT hZ (hw _ (List.mem_of_getElem? (i := 9) rfl))) (mvT hZ (hw _ (List.mem_of_getElem? (i := 10) rfl))) (mvT hZ (hw _ (List.mem_of_getElem? (i := 11) rfl))) (by decide) (mvT hZ (hw _ (List.mem_of_getElem? (i := 13) rfl))) (mvT hZ (hw _ (List.mem_of_getElem? (i := 12) rfl))) (backOf (W := 0) (rm2_5 l Z a0 hw [] p0 a_ONE a_SET a_OPTIONAL a_ARRAY a_INT a_LIST a_BOOLEAN a_NOTHING a_STREAM a_LONG h0 n0 (Nat.le_trans Z0 (Nat.le_refl _)) FF) hZ (hw _ (List.mem_of_getElem? (i := 15) rfl)) (hw _ (List.mem_of_getElem? (i := 14) rfl)) (by decide) (by decide)) q1a q1c (g := (mkF m 1 #[.val (.ref a_STREAM)] [(.ref a_STREAM)])) rfl (by rw [hml]; rfl) (Steps.refl _) (argsL := []) (rest := []) (lenOf pd_0 rfl) rfl (by show 2 * 0 + _ ≤ _; exact Nat.le_of_eq rfl) (hb hby d1_1) (fun _ _ => ⟨rfl, e0, (by decide : 0 + 0 ≤ _), (by decide : 0 + 0 ≤ _)⟩)
  dsimp only [Pt.U, Pt.locs, Pt.cells, Pt.slots] at X1 l1 y1 z1 st1 hQ1
  subst l1 y1 z1
  obtain ⟨rfl, N1q, e1⟩ := hQ1
  have N1 := Fr.app N0 N1q
  obtain ⟨fs, hr, hrun, hended, hW, hsame⟩ := X1.leave (v := some (.int (1 : Int32))) (fun h => by rw [Bd.returns] at h; cases h)
  refine ⟨_, _, pre0 _ ?_, hrun, hended, _, _, rfl, ?_, ⟨_, rfl⟩, hW, hsame.mono (by decide) (by decide)⟩
  · show Steps p.tables e below (s₁.setTop (mkF m 0 #[.val (.ref a_STREAM)] [])) _
    refine XS.aloadN X0.here hx rfl (hb hby d1_0) rfl rfl ?_
    show Steps p.tables e below (s₁.setTop (mkF m 1 #[.val (.ref a_STREAM)] [(.ref a_STREAM)])) _
    refine st1.trans ?_
    show Steps p.tables e below (T1.setTop (mkF m 4 #[.val (.ref a_STREAM)] [(.int (5 : Int32))])) _
    refine XS.tswIn X1.here hx rfl (o := 66) (pc0 := 4) (pc' := 70) rfl (hb hby d1_4) rfl (by decide) rfl (by decide) (by decide) ?_
    show Steps p.tables e below (T1.setTop (mkF m 70 #[.val (.ref a_STREAM)] [])) _
    refine XS.iconst X1.here hx rfl (hb hby d1_70) ?_
    show Steps p.tables e below (T1.setTop (mkF m 71 #[.val (.ref a_STREAM)] [(.int (1 : Int32))])) _
    refine XS.goto X1.here hx rfl (pc0 := 71) (pc' := 75) rfl (hb hby d1_71) (by decide) (by decide) ?_
    show Steps p.tables e below (T1.setTop (mkF m 75 #[.val (.ref a_STREAM)] [(.int (1 : Int32))])) _
    exact retN X1 hx (t := .boolean) Bd.returns (by simp) (hb hby d1_75) hr
  · show own_Q _ _ _ _ T1.heap _
    exact ⟨rfl, N1, e1⟩
set_option maxRecDepth 65536 in
set_option maxHeartbeats 40000000 in
theorem rm3_5 (l : Launch) (Z : State) (a0 : Array Value) (hw : ∀ d ∈ tables_1, d.before a0 Z = true) (ws : List Jvm.Cond) (p0 : Int32) (a_ONE a_SET a_OPTIONAL a_ARRAY a_INT a_LIST a_BOOLEAN a_NOTHING a_STREAM a_LONG : Addr) (h0 : Heap) (n0 : Nat) (Z0 : n0 ≤ h0.size) (FF : Facts Z h0 a_ONE a_SET a_OPTIONAL a_ARRAY a_INT a_LIST a_BOOLEAN a_NOTHING a_STREAM a_LONG) :
    MetFree l (⟨"com/example/querywright/querywright/derived/ResultShape", "isSingle", "()Z"⟩ : MethodName) (head1 (Jvm.Cond.code (⟨"com/example/querywright/querywright/derived/ResultShape", "isSingle", "()Z"⟩ : MethodName) prog_24_method_7_code 1 (some .boolean) :: ws) ({ frames := 0, cells := 0, slots := 0, locals := 0 } : Room)) (fun a U => a = #[(.ref a_STREAM)] ∧ Z.Warmed39 U.vm ∧ U.heap = h0) (fun _ _ _ _ _ => True) (fun _ U o U' => ∃ v L, o = .returned v ∧ own_Q (.int (0 : Int32)) h0 n0 v U'.heap L ∧ FrameEnd U o U' L ({ frames := 0, cells := 0, slots := 0, locals := 0 } : Room).cells ({ frames := 0, cells := 0, slots := 0, locals := 0 } : Room).slots) := by
  refine MetFree.of_bodySF (plainFor_of_name pn_3) hisR ?_
  intro p e s m args below meth c s₁ Bd hml0 hP hK
  obtain ⟨rfl, hZ, hh⟩ := hP
  have hx := Bd.exec
  have hby := Bd.bytes
  have hml : c.maxLocals = 1 := hml0
  have hown : s.vm.findClass "com/example/querywright/querywright/derived/ResultShape" = some m.cls := findClass_of_methodNamed Bd.named
  have X0 : Stand p l e ({ frames := 0, cells := 0, slots := 0, locals := 0 } : Room) s m #[(.ref a_STREAM)] below meth c s₁ [] 0 0 := Stand.of_body Bd
  have e0 : s₁.heap = h0 := by rw [← hh, Bd.state]; rfl
  have N0 := Fr.nil n0
  have pre0 : ∀ t, Steps p.tables e below (s₁.setTop (mkF m 0 #[.val (.ref a_STREAM)] [])) t → Steps p.tables e below (s₁.setTop (entryFrame m #[(.ref a_STREAM)] 1)) t := fun t k => castTop (ef_3 m a_STREAM) k
  obtain ⟨T1, X1, e1, st1⟩ := getS2 X0 hx hZ hown (host := "") (Or.inl (hw _ (List.mem_of_getElem? (i := 23) rfl))) Via.refl e0 (fx_S_ONE FF) (g := (mkF m 1 #[.val (.ref a_STREAM)] [(.ref a_STREAM)])) rfl (hb hby d3_1)
  obtain ⟨T2, X2, e2, st2⟩ := getS2 X1 hx hZ hown (host := "") (Or.inl (hw _ (List.mem_of_getElem? (i := 26) rfl))) Via.refl e1 (fx_S_OPTIONAL FF) (g := (mkF m 8 #[.val (.ref a_STREAM)] [(.ref a_STREAM)])) rfl (hb hby d3_8)
  obtain ⟨fs, hr, hrun, hended, hW, hsame⟩ := X2.leave (v := some (.int (0 : Int32))) (fun h => by rw [Bd.returns] at h; cases h)
  refine ⟨_, _, pre0 _ ?_, hrun, hended, _, _, rfl, ?_, ⟨_, rfl⟩, hW, hsame.mono (by decide) (by decide)⟩
  · show Steps p.tables e below (s₁.setTop (mkF m 0 #[.val (.ref a_STREAM)] [])) _
    refine XS.aloadN X0.here hx rfl (hb hby d3_0) rfl rfl ?_
    show Steps p.tables e below (s₁.setTop (mkF m 1 #[.val (.ref a_STREAM)] [(.ref a_STREAM)])) _
    refine st1 _ ?_
    show Steps p.tables e below (T1.setTop (mkF m 4 #[.val (.ref a_STREAM)] [(.ref a_ONE), (.ref a_STREAM)])) _
    refine Jvm.RoadKit.acmp (g := (mkF m 4 #[.val (.ref a_STREAM)] [(.ref a_ONE), (.ref a_STREAM)])) X1 hx rfl rfl rfl (pc0 := 4) (pc' := 7) (same := false) rfl (hb hby d3_4) rfl (decide_eq_false fun q => Fld.ne (fx_F_STREAM_ordinal FF) (fx_F_ONE_ordinal FF) (by decide) (Value.ref.inj q)) (by decide) (by decide) ?_
    show Steps p.tables e below (T1.setTop (mkF m 7 #[.val (.ref a_STREAM)] [])) _
    refine XS.aloadN X1.here hx rfl (hb hby d3_7) rfl rfl ?_
    show Steps p.tables e below (T1.setTop (mkF m 8 #[.val (.ref a_STREAM)] [(.ref a_STREAM)])) _
    refine st2 _ ?_
    show Steps p.tables e below (T2.setTop (mkF m 11 #[.val (.ref a_STREAM)] [(.ref a_OPTIONAL), (.ref a_STREAM)])) _
    refine Jvm.RoadKit.acmp (g := (mkF m 11 #[.val (.ref a_STREAM)] [(.ref a_OPTIONAL), (.ref a_STREAM)])) X2 hx rfl rfl rfl (pc0 := 11) (pc' := 18) (same := false) rfl (hb hby d3_11) rfl (decide_eq_false fun q => Fld.ne (fx_F_STREAM_ordinal FF) (fx_F_OPTIONAL_ordinal FF) (by decide) (Value.ref.inj q)) (by decide) (by decide) ?_
    show Steps p.tables e below (T2.setTop (mkF m 18 #[.val (.ref a_STREAM)] [])) _
    refine XS.iconst X2.here hx rfl (hb hby d3_18) ?_
    show Steps p.tables e below (T2.setTop (mkF m 19 #[.val (.ref a_STREAM)] [(.int (0 : Int32))])) _
    exact retN X2 hx (t := .boolean) Bd.returns (by simp) (hb hby d3_19) hr
  · show own_Q _ _ _ _ T2.heap _
    exact ⟨rfl, N0, e2⟩
set_option maxRecDepth 65536 in
set_option maxHeartbeats 40000000 in
theorem rm0_5 (l : Launch) (Z : State) (a0 : Array Value) (hw : ∀ d ∈ tables_1, d.before a0 Z = true) (ws : List Jvm.Cond) (p0 : Int32) (a_ONE a_SET a_OPTIONAL a_ARRAY a_INT a_LIST a_BOOLEAN a_NOTHING a_STREAM a_LONG : Addr) (h0 : Heap) (n0 : Nat) (Z0 : n0 ≤ h0.size) (FF : Facts Z h0 a_ONE a_SET a_OPTIONAL a_ARRAY a_INT a_LIST a_BOOLEAN a_NOTHING a_STREAM a_LONG) (hk0 : ((p0 &&& (2147483647 : Int32)) % (10 : Int32)) = (5 : Int32)) :
    MetFree l x (head1 (Jvm.Cond.code x code maxLocals ret :: ws) room_1) (fun a U => a = #[(.int p0)] ∧ Z.Warmed39 U.vm ∧ U.heap = h0) (fun _ _ _ _ _ => True) (fun _ U o U' => ∃ v L, o = .returned v ∧ (v = some (.int (1 : Int32)) ∧ Fr n0 L) ∧ FrameEnd U o U' L room_1.cells room_1.slots) := by
  refine MetFree.of_bodySF (plainFor_of_name pn_0) hisR ?_
  intro p e s m args below meth c s₁ Bd hml0 hP hK
  obtain ⟨rfl, hZ, hh⟩ := hP
  have hx := Bd.exec
  have hby := Bd.bytes
  have hml : c.maxLocals = 5 := hml0
  have hown : s.vm.findClass "com/example/querywright/querywright/derived/ResultShapeHoldsRowsPinLaw" = some m.cls := findClass_of_methodNamed Bd.named
  have X0 : Stand p l e room_1 s m #[(.int p0)] below meth c s₁ [] 0 0 := Stand.of_body Bd
  have e0 : s₁.heap = h0 := by rw [← hh, Bd.state]; rfl
  have N0 := Fr.nil n0
  have pre0 : ∀ t, Steps p.tables e below (s₁.setTop (mkF m 0 #[.val (.int p0), .unset, .unset, .unset, .unset] [])) t → Steps p.tables e below (s₁.setTop (entryFrame m #[(.int p0)] maxLocals)) t := fun t k => castTop (ef_0 m p0) k
  obtain ⟨T1, X1, e1, st1⟩ := getS2 X0 hx hZ hown (host := "") (Or.inl (hw _ (List.mem_of_getElem? (i := 39) rfl))) Via.refl e0 (fx_S_STREAM FF) (g := (mkF m 82 #[.val (.int p0), .val (.int (5 : Int32)), .unset, .unset, .unset] [])) rfl (hb hby at_82)
  obtain ⟨cq2, kq2, q2a, q2b, q2c⟩ := isOf hZ e1 (fx_E_STREAM FF)
  obtain ⟨_, _, ⟨T2, L2, k2, n2⟩, -, X2, ⟨Lc2, hQ2, l2, y2, z2⟩, st2⟩ := X1.virtualBack hx (y := (⟨"com/example/querywright/querywright/derived/ResultShape", "holdsRows", "()Z"⟩ : MethodName)) (z := (⟨"com/example/querywright/querywright/derived/ResultShape", "holdsRows", "()Z"⟩ : MethodName)) hown (mvT hZ (hw _ (List.mem_of_getElem? (i := 4) rfl))) (mvT hZ (hw _ (List.mem_of_getElem? (i := 5) rfl))) (notFace_of_selects (args := #[]) (mvT hZ (hw _ (List.mem_of_getElem? (i := 7) rfl)))) (mvT hZ (hw _ (List.mem_of_getElem? (i := 7) rfl))) (mvT hZ (hw _ (List.mem_of_getElem? (i := 6) rfl))) (by decide) (backOf (W := 0) (rm1_5 l Z a0 hw [] p0 a_ONE a_SET a_OPTIONAL a_ARRAY a_INT a_LIST a_BOOLEAN a_NOTHING a_STREAM a_LONG h0 n0 (Nat.le_trans Z0 (Nat.le_refl _)) FF) hZ (hw _ (List.mem_of_getElem? (i := 8) rfl)) (hw _ (List.mem_of_getElem? (i := 2) rfl)) (by decide) (by decide)) q2a q2c (g := (mkF m 143 #[.val (.int p0), .val (.int (5 : Int32)), .val (.ref a_STREAM), .val (.int (1 : Int32)), .unset] [(.ref a_STREAM)])) rfl (by rw [hml]; rfl) (Steps.refl _) (argsL := []) (rest := []) (lenOf pd_1 rfl) rfl (by show 2 * 0 + _ ≤ _; exact Nat.le_of_eq rfl) (hb hby at_143) (fun _ _ => ⟨rfl, e1, (by decide : 0 + 0 ≤ _), (by decide : 0 + 0 ≤ _)⟩)
  dsimp only [Pt.U, Pt.locs, Pt.cells, Pt.slots] at X2 l2 y2 z2 st2 hQ2
  subst l2 y2 z2
  obtain ⟨rfl, N2q, e2⟩ := hQ2
  have N2 := Fr.app N0 N2q
  obtain ⟨cq3, kq3, q3a, q3b, q3c⟩ := isOf hZ e2 (fx_E_STREAM FF)
  obtain ⟨_, _, ⟨T3, L3, k3, n3⟩, -, X3, ⟨Lc3, hQ3, l3, y3, z3⟩, st3⟩ := X2.virtualBack hx (y := (⟨"com/example/querywright/querywright/derived/ResultShape", "isSingle", "()Z"⟩ : MethodName)) (z := (⟨"com/example/querywright/querywright/derived/ResultShape", "isSingle", "()Z"⟩ : MethodName)) hown (mvT hZ (hw _ (List.mem_of_getElem? (i := 18) rfl))) (mvT hZ (hw _ (List.mem_of_getElem? (i := 19) rfl))) (notFace_of_selects (args := #[]) (mvT hZ (hw _ (List.mem_of_getElem? (i := 21) rfl)))) (mvT hZ (hw _ (List.mem_of_getElem? (i := 21) rfl))) (mvT hZ (hw _ (List.mem_of_getElem? (i := 20) rfl))) (by decide) (backOf (W := 0) (rm3_5 l Z a0 hw [] p0 a_ONE a_SET a_OPTIONAL a_ARRAY a_INT a_LIST a_BOOLEAN a_NOTHING a_STREAM a_LONG h0 n0 (Nat.le_trans Z0 (Nat.le_refl _)) FF) hZ (hw _ (List.mem_of_getElem? (i := 22) rfl)) (hw _ (List.mem_of_getElem? (i := 2) rfl)) (by decide) (by decide)) q3a q3c (g := (mkF m 155 #[.val (.int p0), .val (.int (5 : Int32)), .val (.ref a_STREAM), .val (.int (1 : Int32)), .val (.int (1 : Int32))] [(.ref a_STREAM)])) rfl (by rw [hml]; rfl) (Steps.refl _) (argsL := []) (rest := []) (lenOf pd_1 rfl) rfl (by show 2 * 0 + _ ≤ _; exact Nat.le_of_eq rfl) (hb hby at_155) (fun _ _ => ⟨rfl, e2, (by decide : 0 + 0 ≤ _), (by decide : 0 + 0 ≤ _)⟩)
  dsimp only [Pt.U, Pt.locs, Pt.cells, Pt.slots] at X3 l3 y3 z3 st3 hQ3
  subst l3 y3 z3
  obtain ⟨rfl, N3q, e3⟩ := hQ3
  have N3 := Fr.app N2 N3q
  obtain ⟨fs, hr, hrun, hended, hW, hsame⟩ := X3.leave (v := some (.int (1 : Int32))) (fun h => by rw [Bd.returns] at h; cases h)
  refine ⟨_, _, pre0 _ ?_, hrun, hended, _, _, rfl, ?_, ⟨_, rfl⟩, hW, hsame.mono (by decide) (by decide)⟩
  · show Steps p.tables e below (s₁.setTop (mkF m 0 #[.val (.int p0), .unset, .unset, .unset, .unset] [])) _
    refine XS.iloadN X0.here hx rfl (hb hby at_0) rfl ?_
    show Steps p.tables e below (s₁.setTop (mkF m 1 #[.val (.int p0), .unset, .unset, .unset, .unset] [(.int p0)])) _
    refine X0.ldcInt hx hown (mvT hZ (hw _ (List.mem_of_getElem? (i := 0) rfl))) (g := (mkF m 1 #[.val (.int p0), .unset, .unset, .unset, .unset] [(.int p0)])) rfl (hb hby at_1) _ ?_
    show Steps p.tables e below (s₁.setTop (mkF m 3 #[.val (.int p0), .unset, .unset, .unset, .unset] [(.int (2147483647 : Int32)), (.int p0)])) _
    refine XS.iand X0.here hx rfl (hb hby at_3) rfl ?_
    show Steps p.tables e below (s₁.setTop (mkF m 4 #[.val (.int p0), .unset, .unset, .unset, .unset] [(.int (p0 &&& (2147483647 : Int32)))])) _
    refine XS.bipush X0.here hx rfl (hb hby at_4) ?_
    show Steps p.tables e below (s₁.setTop (mkF m 6 #[.val (.int p0), .unset, .unset, .unset, .unset] [(.int (10 : Int32)), (.int (p0 &&& (2147483647 : Int32)))])) _
    refine iremM X0 hx rfl (hb hby at_6) rfl (by decide) ?_
    show Steps p.tables e below (s₁.setTop (mkF m 7 #[.val (.int p0), .unset, .unset, .unset, .unset] [(.int ((p0 &&& (2147483647 : Int32)) % (10 : Int32)))])) _
    rw [hk0]
    show Steps p.tables e below (s₁.setTop (mkF m 7 #[.val (.int p0), .unset, .unset, .unset, .unset] [(.int (5 : Int32))])) _
    refine XS.istoreN X0.here hx rfl (hb hby at_7) rfl (l' := #[.val (.int p0), .val (.int (5 : Int32)), .unset, .unset, .unset]) rfl ?_
    show Steps p.tables e below (s₁.setTop (mkF m 8 #[.val (.int p0), .val (.int (5 : Int32)), .unset, .unset, .unset] [])) _
    refine XS.iloadN X0.here hx rfl (hb hby at_8) rfl ?_
    show Steps p.tables e below (s₁.setTop (mkF m 9 #[.val (.int p0), .val (.int (5 : Int32)), .unset, .unset, .unset] [(.int (5 : Int32))])) _
    refine XS.ifYes X0.here hx rfl (pc0 := 9) (pc' := 21) rfl (hb hby at_9) rfl (by decide) (by decide) (by decide) ?_
    show Steps p.tables e below (s₁.setTop (mkF m 21 #[.val (.int p0), .val (.int (5 : Int32)), .unset, .unset, .unset] [])) _
    refine XS.iloadN X0.here hx rfl (hb hby at_21) rfl ?_
    show Steps p.tables e below (s₁.setTop (mkF m 22 #[.val (.int p0), .val (.int (5 : Int32)), .unset, .unset, .unset] [(.int (5 : Int32))])) _
    refine XS.iconst X0.here hx rfl (hb hby at_22) ?_
    show Steps p.tables e below (s₁.setTop (mkF m 23 #[.val (.int p0), .val (.int (5 : Int32)), .unset, .unset, .unset] [(.int (1 : Int32)), (.int (5 : Int32))])) _
    refine XS.icmpYes X0.here hx rfl (pc0 := 23) (pc' := 35) rfl (hb hby at_23) rfl (by decide) (by decide) (by decide) ?_
    show Steps p.tables e below (s₁.setTop (mkF m 35 #[.val (.int p0), .val (.int (5 : Int32)), .unset, .unset, .unset] [])) _
    refine XS.iloadN X0.here hx rfl (hb hby at_35) rfl ?_
    show Steps p.tables e below (s₁.setTop (mkF m 36 #[.val (.int p0), .val (.int (5 : Int32)), .unset, .unset, .unset] [(.int (5 : Int32))])) _
    refine XS.iconst X0.here hx rfl (hb hby at_36) ?_
    show Steps p.tables e below (s₁.setTop (mkF m 37 #[.val (.int p0), .val (.int (5 : Int32)), .unset, .unset, .unset] [(.int (2 : Int32)), (.int (5 : Int32))])) _
    refine XS.icmpYes X0.here hx rfl (pc0 := 37) (pc' := 49) rfl (hb hby at_37) rfl (by decide) (by decide) (by decide) ?_
    show Steps p.tables e below (s₁.setTop (mkF m 49 #[.val (.int p0), .val (.int (5 : Int32)), .unset, .unset, .unset] [])) _
    refine XS.iloadN X0.here hx rfl (hb hby at_49) rfl ?_
    show Steps p.tables e below (s₁.setTop (mkF m 50 #[.val (.int p0), .val (.int (5 : Int32)), .unset, .unset, .unset] [(.int (5 : Int32))])) _
    refine XS.iconst X0.here hx rfl (hb hby at_50) ?_
    show Steps p.tables e below (s₁.setTop (mkF m 51 #[.val (.int p0), .val (.int (5 : Int32)), .unset, .unset, .unset] [(.int (3 : Int32)), (.int (5 : Int32))])) _
    refine XS.icmpYes X0.here hx rfl (pc0 := 51) (pc' := 63) rfl (hb hby at_51) rfl (by decide) (by decide) (by decide) ?_
    show Steps p.tables e below (s₁.setTop (mkF m 63 #[.val (.int p0), .val (.int (5 : Int32)), .unset, .unset, .unset] [])) _
    refine XS.iloadN X0.here hx rfl (hb hby at_63) rfl ?_
    show Steps p.tables e below (s₁.setTop (mkF m 64 #[.val (.int p0), .val (.int (5 : Int32)), .unset, .unset, .unset] [(.int (5 : Int32))])) _
    refine XS.iconst X0.here hx rfl (hb hby at_64) ?_
    show Steps p.tables e below (s₁.setTop (mkF m 65 #[.val (.int p0), .val (.int (5 : Int32)), .unset, .unset, .unset] [(.int (4 : Int32)), (.int (5 : Int32))])) _
    refine XS.icmpYes X0.here hx rfl (pc0 := 65) (pc' := 77) rfl (hb hby at_65) rfl (by decide) (by decide) (by decide) ?_
    show Steps p.tables e below (s₁.setTop (mkF m 77 #[.val (.int p0), .val (.int (5 : Int32)), .unset, .unset, .unset] [])) _
    refine XS.iloadN X0.here hx rfl (hb hby at_77) rfl ?_
    show Steps p.tables e below (s₁.setTop (mkF m 78 #[.val (.int p0), .val (.int (5 : Int32)), .unset, .unset, .unset] [(.int (5 : Int32))])) _
    refine XS.iconst X0.here hx rfl (hb hby at_78) ?_
    show Steps p.tables e below (s₁.setTop (mkF m 79 #[.val (.int p0), .val (.int (5 : Int32)), .unset, .unset, .unset] [(.int (5 : Int32)), (.int (5 : Int32))])) _
    refine XS.icmpNo X0.here hx rfl (hb hby at_79) rfl (by decide) ?_
    show Steps p.tables e below (s₁.setTop (mkF m 82 #[.val (.int p0), .val (.int (5 : Int32)), .unset, .unset, .unset] [])) _
    refine st1 _ ?_
    show Steps p.tables e below (T1.setTop (mkF m 85 #[.val (.int p0), .val (.int (5 : Int32)), .unset, .unset, .unset] [(.ref a_STREAM)])) _
    refine XS.astoreN X1.here hx rfl (hb hby at_85) rfl rfl (l' := #[.val (.int p0), .val (.int (5 : Int32)), .val (.ref a_STREAM), .unset, .unset]) rfl ?_
    show Steps p.tables e below (T1.setTop (mkF m 86 #[.val (.int p0), .val (.int (5 : Int32)), .val (.ref a_STREAM), .unset, .unset] [])) _
    refine XS.iconst X1.here hx rfl (hb hby at_86) ?_
    show Steps p.tables e below (T1.setTop (mkF m 87 #[.val (.int p0), .val (.int (5 : Int32)), .val (.ref a_STREAM), .unset, .unset] [(.int (1 : Int32))])) _
    refine XS.istoreN X1.here hx rfl (hb hby at_87) rfl (l' := #[.val (.int p0), .val (.int (5 : Int32)), .val (.ref a_STREAM), .val (.int (1 : Int32)), .unset]) rfl ?_
    show Steps p.tables e below (T1.setTop (mkF m 88 #[.val (.int p0), .val (.int (5 : Int32)), .val (.ref a_STREAM), .val (.int (1 : Int32)), .unset] [])) _
    refine XS.goto X1.here hx rfl (pc0 := 88) (pc' := 142) rfl (hb hby at_88) (by decide) (by decide) ?_
    show Steps p.tables e below (T1.setTop (mkF m 142 #[.val (.int p0), .val (.int (5 : Int32)), .val (.ref a_STREAM), .val (.int (1 : Int32)), .unset] [])) _
    refine XS.aloadN X1.here hx rfl (hb hby at_142) rfl rfl ?_
    show Steps p.tables e below (T1.setTop (mkF m 143 #[.val (.int p0), .val (.int (5 : Int32)), .val (.ref a_STREAM), .val (.int (1 : Int32)), .unset] [(.ref a_STREAM)])) _
    refine st2.trans ?_
    show Steps p.tables e below (T2.setTop (mkF m 146 #[.val (.int p0), .val (.int (5 : Int32)), .val (.ref a_STREAM), .val (.int (1 : Int32)), .unset] [(.int (1 : Int32))])) _
    refine XS.istore X2.here hx rfl (hb hby at_146) rfl (l' := #[.val (.int p0), .val (.int (5 : Int32)), .val (.ref a_STREAM), .val (.int (1 : Int32)), .val (.int (1 : Int32))]) rfl ?_
    show Steps p.tables e below (T2.setTop (mkF m 148 #[.val (.int p0), .val (.int (5 : Int32)), .val (.ref a_STREAM), .val (.int (1 : Int32)), .val (.int (1 : Int32))] [])) _
    refine XS.iload X2.here hx rfl (hb hby at_148) rfl ?_
    show Steps p.tables e below (T2.setTop (mkF m 150 #[.val (.int p0), .val (.int (5 : Int32)), .val (.ref a_STREAM), .val (.int (1 : Int32)), .val (.int (1 : Int32))] [(.int (1 : Int32))])) _
    refine XS.iloadN X2.here hx rfl (hb hby at_150) rfl ?_
    show Steps p.tables e below (T2.setTop (mkF m 151 #[.val (.int p0), .val (.int (5 : Int32)), .val (.ref a_STREAM), .val (.int (1 : Int32)), .val (.int (1 : Int32))] [(.int (1 : Int32)), (.int (1 : Int32))])) _
    refine XS.icmpNo X2.here hx rfl (hb hby at_151) rfl (by decide) ?_
    show Steps p.tables e below (T2.setTop (mkF m 154 #[.val (.int p0), .val (.int (5 : Int32)), .val (.ref a_STREAM), .val (.int (1 : Int32)), .val (.int (1 : Int32))] [])) _
    refine XS.aloadN X2.here hx rfl (hb hby at_154) rfl rfl ?_
    show Steps p.tables e below (T2.setTop (mkF m 155 #[.val (.int p0), .val (.int (5 : Int32)), .val (.ref a_STREAM), .val (.int (1 : Int32)), .val (.int (1 : Int32))] [(.ref a_STREAM)])) _
    refine st3.trans ?_
    show Steps p.tables e below (T3.setTop (mkF m 158 #[.val (.int p0), .val (.int (5 : Int32)), .val (.ref a_STREAM), .val (.int (1 : Int32)), .val (.int (1 : Int32))] [(.int (0 : Int32))])) _
    refine XS.ifYes X3.here hx rfl (pc0 := 158) (pc' := 166) rfl (hb hby at_158) rfl (by decide) (by decide) (by decide) ?_
    show Steps p.tables e below (T3.setTop (mkF m 166 #[.val (.int p0), .val (.int (5 : Int32)), .val (.ref a_STREAM), .val (.int (1 : Int32)), .val (.int (1 : Int32))] [])) _
    refine XS.iconst X3.here hx rfl (hb hby at_166) ?_
    show Steps p.tables e below (T3.setTop (mkF m 167 #[.val (.int p0), .val (.int (5 : Int32)), .val (.ref a_STREAM), .val (.int (1 : Int32)), .val (.int (1 : Int32))] [(.int (1 : Int32))])) _
    refine XS.goto X3.here hx rfl (pc0 := 167) (pc' := 171) rfl (hb hby at_167) (by decide) (by decide) ?_
    show Steps p.tables e below (T3.setTop (mkF m 171 #[.val (.int p0), .val (.int (5 : Int32)), .val (.ref a_STREAM), .val (.int (1 : Int32)), .val (.int (1 : Int32))] [(.int (1 : Int32))])) _
    exact retN X3 hx (t := .boolean) Bd.returns (by simp) (hb hby at_171) hr
  · exact ⟨rfl, N3⟩
set_option maxRecDepth 65536 in
set_option maxHeartbeats 40000000 in
theorem rm2_6 (l : Launch) (Z : State) (a0 : Array Value) (hw : ∀ d ∈ tables_1, d.before a0 Z = true) (ws : List Jvm.Cond) (p0 : Int32) (a_ONE a_SET a_OPTIONAL a_ARRAY a_INT a_LIST a_BOOLEAN a_NOTHING a_STREAM a_LONG : Addr) (h0 : Heap) (n0 : Nat) (Z0 : n0 ≤ h0.size) (FF : Facts Z h0 a_ONE a_SET a_OPTIONAL a_ARRAY a_INT a_LIST a_BOOLEAN a_NOTHING a_STREAM a_LONG) :
    MetFree l (⟨"java/lang/Enum", "ordinal", "()I"⟩ : MethodName) (head1 (Jvm.Cond.code (⟨"java/lang/Enum", "ordinal", "()I"⟩ : MethodName) jdk_37_method_2_code 1 (some .int) :: ws) ({ frames := 0, cells := 0, slots := 0, locals := 0 } : Room)) (fun a U => a = #[(.ref a_LONG)] ∧ Z.Warmed39 U.vm ∧ U.heap = h0) (fun _ _ _ _ _ => True) (fun _ U o U' => ∃ v L, o = .returned v ∧ own_Q (.int (6 : Int32)) h0 n0 v U'.heap L ∧ FrameEnd U o U' L ({ frames := 0, cells := 0, slots := 0, locals := 0 } : Room).cells ({ frames := 0, cells := 0, slots := 0, locals := 0 } : Room).slots) := by
  refine MetFree.of_bodySF (plainFor_of_name pn_2) hisR ?_
  intro p e s m args below meth c s₁ Bd hml0 hP hK
  obtain ⟨rfl, hZ, hh⟩ := hP
  have hx := Bd.exec
  have hby := Bd.bytes
  have hml : c.maxLocals = 1 := hml0
  have hown : s.vm.findClass "java/lang/Enum" = some m.cls := findClass_of_methodNamed Bd.named
  have X0 : Stand p l e ({ frames := 0, cells := 0, slots := 0, locals := 0 } : Room) s m #[(.ref a_LONG)] below meth c s₁ [] 0 0 := Stand.of_body Bd
  have e0 : s₁.heap = h0 := by rw [← hh, Bd.state]; rfl
  have N0 := Fr.nil n0
  have pre0 : ∀ t, Steps p.tables e below (s₁.setTop (mkF m 0 #[.val (.ref a_LONG)] [])) t → Steps p.tables e below (s₁.setTop (entryFrame m #[(.ref a_LONG)] 1)) t := fun t k => castTop (ef_2 m a_LONG) k
  obtain ⟨T1, X1, e1, st1⟩ := getF X0 hx hZ hown (host := "") (Or.inl (hw _ (List.mem_of_getElem? (i := 16) rfl))) Via.refl e0 (fx_F_LONG_ordinal FF) (g := (mkF m 1 #[.val (.ref a_LONG)] [(.ref a_LONG)])) rfl rfl (hb hby d2_1)
  obtain ⟨fs, hr, hrun, hended, hW, hsame⟩ := X1.leave (v := some (.int (6 : Int32))) (fun h => by rw [Bd.returns] at h; cases h)
  refine ⟨_, _, pre0 _ ?_, hrun, hended, _, _, rfl, ?_, ⟨_, rfl⟩, hW, hsame.mono (by decide) (by decide)⟩
  · show Steps p.tables e below (s₁.setTop (mkF m 0 #[.val (.ref a_LONG)] [])) _
    refine XS.aloadN X0.here hx rfl (hb hby d2_0) rfl rfl ?_
    show Steps p.tables e below (s₁.setTop (mkF m 1 #[.val (.ref a_LONG)] [(.ref a_LONG)])) _
    refine st1 _ ?_
    show Steps p.tables e below (T1.setTop (mkF m 4 #[.val (.ref a_LONG)] [(.int (6 : Int32))])) _
    exact retI X1 hx Bd.returns (hb hby d2_4) hr
  · show own_Q _ _ _ _ T1.heap _
    exact ⟨rfl, N0, e1⟩
set_option maxRecDepth 65536 in
set_option maxHeartbeats 40000000 in
theorem rm1_6 (l : Launch) (Z : State) (a0 : Array Value) (hw : ∀ d ∈ tables_1, d.before a0 Z = true) (ws : List Jvm.Cond) (p0 : Int32) (a_ONE a_SET a_OPTIONAL a_ARRAY a_INT a_LIST a_BOOLEAN a_NOTHING a_STREAM a_LONG : Addr) (h0 : Heap) (n0 : Nat) (Z0 : n0 ≤ h0.size) (FF : Facts Z h0 a_ONE a_SET a_OPTIONAL a_ARRAY a_INT a_LIST a_BOOLEAN a_NOTHING a_STREAM a_LONG) :
    MetFree l (⟨"com/example/querywright/querywright/derived/ResultShape", "holdsRows", "()Z"⟩ : MethodName) (head1 (Jvm.Cond.code (⟨"com/example/querywright/querywright/derived/ResultShape", "holdsRows", "()Z"⟩ : MethodName) prog_24_method_6_code 1 (some .boolean) :: ws) ({ frames := 1, cells := 0, slots := 0, locals := 12 } : Room)) (fun a U => a = #[(.ref a_LONG)] ∧ Z.Warmed39 U.vm ∧ U.heap = h0) (fun _ _ _ _ _ => True) (fun _ U o U' => ∃ v L, o = .returned v ∧ own_Q (.int (0 : Int32)) h0 n0 v U'.heap L ∧ FrameEnd U o U' L ({ frames := 1, cells := 0, slots := 0, locals := 12 } : Room).cells ({ frames := 1, cells := 0, slots := 0, locals := 12 } : Room).slots) := by
  refine MetFree.of_bodySF (plainFor_of_name pn_1) hisR ?_
  intro p e s m args below meth c s₁ Bd hml0 hP hK
  obtain ⟨rfl, hZ, hh⟩ := hP
  have hx := Bd.exec
  have hby := Bd.bytes
  have hml : c.maxLocals = 1 := hml0
  have hown : s.vm.findClass "com/example/querywright/querywright/derived/ResultShape" = some m.cls := findClass_of_methodNamed Bd.named
  have X0 : Stand p l e ({ frames := 1, cells := 0, slots := 0, locals := 12 } : Room) s m #[(.ref a_LONG)] below meth c s₁ [] 0 0 := Stand.of_body Bd
  have e0 : s₁.heap = h0 := by rw [← hh, Bd.state]; rfl
  have N0 := Fr.nil n0
  have pre0 : ∀ t, Steps p.tables e below (s₁.setTop (mkF m 0 #[.val (.ref a_LONG)] [])) t → Steps p.tables e below (s₁.setTop (entryFrame m #[(.ref a_LONG)] 1)) t := fun t k => castTop (ef_1 m a_LONG) k
  obtain ⟨cq1, kq1, q1a, q1b, q1c⟩ := isOf hZ e0 (fx_E_LONG FF)
  obtain ⟨_, _, ⟨T1, L1, k1, n1⟩, -, X1, ⟨Lc1, hQ1, l1, y1, z1⟩, st1⟩ := X0.virtualBackUp hx (owner := "java/lang/Enum") (x := (⟨"com/example/querywright/querywright/derived/ResultShape", "ordinal", "()I"⟩ : MethodName)) (y := (⟨"java/lang/Enum", "ordinal", "()I"⟩ : MethodName)) hown (mvT hZ (hw _ (List.mem_of_getElem? (i := 9) rfl))) (mvT hZ (hw _ (List.mem_of_getElem? (i := 10) rfl))) (mvT hZ (hw _ (List.mem_of_getElem? (i := 11) rfl))) (by decide) (mvT hZ (hw _ (List.mem_of_getElem? (i := 13) rfl))) (mvT hZ (hw _ (List.mem_of_getElem? (i := 12) rfl))) (backOf (W := 0) (rm2_6 l Z a0 hw [] p0 a_ONE a_SET a_OPTIONAL a_ARRAY a_INT a_LIST a_BOOLEAN a_NOTHING a_STREAM a_LONG h0 n0 (Nat.le_trans Z0 (Nat.le_refl _)) FF) hZ (hw _ (List.mem_of_getElem? (i := 15) rfl)) (hw _ (List.mem_of_getElem? (i := 14) rfl)) (by decide) (by decide)) q1a q1c (g := (mkF m 1 #[.val (.ref a_LONG)] [(.ref a_LONG)])) rfl (by rw [hml]; rfl) (Steps.refl _) (argsL := []) (rest := []) (lenOf pd_0 rfl) rfl (by show 2 * 0 + _ ≤ _; exact Nat.le_of_eq rfl) (hb hby d1_1) (fun _ _ => ⟨rfl, e0, (by decide : 0 + 0 ≤ _), (by decide : 0 + 0 ≤ _)⟩)
  dsimp only [Pt.U, Pt.locs, Pt.cells, Pt.slots] at X1 l1 y1 z1 st1 hQ1
  subst l1 y1 z1
  obtain ⟨rfl, N1q, e1⟩ := hQ1
  have N1 := Fr.app N0 N1q
  obtain ⟨fs, hr, hrun, hended, hW, hsame⟩ := X1.leave (v := some (.int (0 : Int32))) (fun h => by rw [Bd.returns] at h; cases h)
  refine ⟨_, _, pre0 _ ?_, hrun, hended, _, _, rfl, ?_, ⟨_, rfl⟩, hW, hsame.mono (by decide) (by decide)⟩
  · show Steps p.tables e below (s₁.setTop (mkF m 0 #[.val (.ref a_LONG)] [])) _
    refine XS.aloadN X0.here hx rfl (hb hby d1_0) rfl rfl ?_
    show Steps p.tables e below (s₁.setTop (mkF m 1 #[.val (.ref a_LONG)] [(.ref a_LONG)])) _
    refine st1.trans ?_
    show Steps p.tables e below (T1.setTop (mkF m 4 #[.val (.ref a_LONG)] [(.int (6 : Int32))])) _
    refine XS.tswIn X1.here hx rfl (o := 70) (pc0 := 4) (pc' := 74) rfl (hb hby d1_4) rfl (by decide) rfl (by decide) (by decide) ?_
    show Steps p.tables e below (T1.setTop (mkF m 74 #[.val (.ref a_LONG)] [])) _
    refine XS.iconst X1.here hx rfl (hb hby d1_74) ?_
    show Steps p.tables e below (T1.setTop (mkF m 75 #[.val (.ref a_LONG)] [(.int (0 : Int32))])) _
    exact retN X1 hx (t := .boolean) Bd.returns (by simp) (hb hby d1_75) hr
  · show own_Q _ _ _ _ T1.heap _
    exact ⟨rfl, N1, e1⟩
set_option maxRecDepth 65536 in
set_option maxHeartbeats 40000000 in
theorem rm3_6 (l : Launch) (Z : State) (a0 : Array Value) (hw : ∀ d ∈ tables_1, d.before a0 Z = true) (ws : List Jvm.Cond) (p0 : Int32) (a_ONE a_SET a_OPTIONAL a_ARRAY a_INT a_LIST a_BOOLEAN a_NOTHING a_STREAM a_LONG : Addr) (h0 : Heap) (n0 : Nat) (Z0 : n0 ≤ h0.size) (FF : Facts Z h0 a_ONE a_SET a_OPTIONAL a_ARRAY a_INT a_LIST a_BOOLEAN a_NOTHING a_STREAM a_LONG) :
    MetFree l (⟨"com/example/querywright/querywright/derived/ResultShape", "isSingle", "()Z"⟩ : MethodName) (head1 (Jvm.Cond.code (⟨"com/example/querywright/querywright/derived/ResultShape", "isSingle", "()Z"⟩ : MethodName) prog_24_method_7_code 1 (some .boolean) :: ws) ({ frames := 0, cells := 0, slots := 0, locals := 0 } : Room)) (fun a U => a = #[(.ref a_LONG)] ∧ Z.Warmed39 U.vm ∧ U.heap = h0) (fun _ _ _ _ _ => True) (fun _ U o U' => ∃ v L, o = .returned v ∧ own_Q (.int (0 : Int32)) h0 n0 v U'.heap L ∧ FrameEnd U o U' L ({ frames := 0, cells := 0, slots := 0, locals := 0 } : Room).cells ({ frames := 0, cells := 0, slots := 0, locals := 0 } : Room).slots) := by
  refine MetFree.of_bodySF (plainFor_of_name pn_3) hisR ?_
  intro p e s m args below meth c s₁ Bd hml0 hP hK
  obtain ⟨rfl, hZ, hh⟩ := hP
  have hx := Bd.exec
  have hby := Bd.bytes
  have hml : c.maxLocals = 1 := hml0
  have hown : s.vm.findClass "com/example/querywright/querywright/derived/ResultShape" = some m.cls := findClass_of_methodNamed Bd.named
  have X0 : Stand p l e ({ frames := 0, cells := 0, slots := 0, locals := 0 } : Room) s m #[(.ref a_LONG)] below meth c s₁ [] 0 0 := Stand.of_body Bd
  have e0 : s₁.heap = h0 := by rw [← hh, Bd.state]; rfl
  have N0 := Fr.nil n0
  have pre0 : ∀ t, Steps p.tables e below (s₁.setTop (mkF m 0 #[.val (.ref a_LONG)] [])) t → Steps p.tables e below (s₁.setTop (entryFrame m #[(.ref a_LONG)] 1)) t := fun t k => castTop (ef_3 m a_LONG) k
  obtain ⟨T1, X1, e1, st1⟩ := getS2 X0 hx hZ hown (host := "") (Or.inl (hw _ (List.mem_of_getElem? (i := 23) rfl))) Via.refl e0 (fx_S_ONE FF) (g := (mkF m 1 #[.val (.ref a_LONG)] [(.ref a_LONG)])) rfl (hb hby d3_1)
  obtain ⟨T2, X2, e2, st2⟩ := getS2 X1 hx hZ hown (host := "") (Or.inl (hw _ (List.mem_of_getElem? (i := 26) rfl))) Via.refl e1 (fx_S_OPTIONAL FF) (g := (mkF m 8 #[.val (.ref a_LONG)] [(.ref a_LONG)])) rfl (hb hby d3_8)
  obtain ⟨fs, hr, hrun, hended, hW, hsame⟩ := X2.leave (v := some (.int (0 : Int32))) (fun h => by rw [Bd.returns] at h; cases h)
  refine ⟨_, _, pre0 _ ?_, hrun, hended, _, _, rfl, ?_, ⟨_, rfl⟩, hW, hsame.mono (by decide) (by decide)⟩
  · show Steps p.tables e below (s₁.setTop (mkF m 0 #[.val (.ref a_LONG)] [])) _
    refine XS.aloadN X0.here hx rfl (hb hby d3_0) rfl rfl ?_
    show Steps p.tables e below (s₁.setTop (mkF m 1 #[.val (.ref a_LONG)] [(.ref a_LONG)])) _
    refine st1 _ ?_
    show Steps p.tables e below (T1.setTop (mkF m 4 #[.val (.ref a_LONG)] [(.ref a_ONE), (.ref a_LONG)])) _
    refine Jvm.RoadKit.acmp (g := (mkF m 4 #[.val (.ref a_LONG)] [(.ref a_ONE), (.ref a_LONG)])) X1 hx rfl rfl rfl (pc0 := 4) (pc' := 7) (same := false) rfl (hb hby d3_4) rfl (decide_eq_false fun q => Fld.ne (fx_F_LONG_ordinal FF) (fx_F_ONE_ordinal FF) (by decide) (Value.ref.inj q)) (by decide) (by decide) ?_
    show Steps p.tables e below (T1.setTop (mkF m 7 #[.val (.ref a_LONG)] [])) _
    refine XS.aloadN X1.here hx rfl (hb hby d3_7) rfl rfl ?_
    show Steps p.tables e below (T1.setTop (mkF m 8 #[.val (.ref a_LONG)] [(.ref a_LONG)])) _
    refine st2 _ ?_
    show Steps p.tables e below (T2.setTop (mkF m 11 #[.val (.ref a_LONG)] [(.ref a_OPTIONAL), (.ref a_LONG)])) _
    refine Jvm.RoadKit.acmp (g := (mkF m 11 #[.val (.ref a_LONG)] [(.ref a_OPTIONAL), (.ref a_LONG)])) X2 hx rfl rfl rfl (pc0 := 11) (pc' := 18) (same := false) rfl (hb hby d3_11) rfl (decide_eq_false fun q => Fld.ne (fx_F_LONG_ordinal FF) (fx_F_OPTIONAL_ordinal FF) (by decide) (Value.ref.inj q)) (by decide) (by decide) ?_
    show Steps p.tables e below (T2.setTop (mkF m 18 #[.val (.ref a_LONG)] [])) _
    refine XS.iconst X2.here hx rfl (hb hby d3_18) ?_
    show Steps p.tables e below (T2.setTop (mkF m 19 #[.val (.ref a_LONG)] [(.int (0 : Int32))])) _
    exact retN X2 hx (t := .boolean) Bd.returns (by simp) (hb hby d3_19) hr
  · show own_Q _ _ _ _ T2.heap _
    exact ⟨rfl, N0, e2⟩
set_option maxRecDepth 65536 in
set_option maxHeartbeats 40000000 in
theorem rm0_6 (l : Launch) (Z : State) (a0 : Array Value) (hw : ∀ d ∈ tables_1, d.before a0 Z = true) (ws : List Jvm.Cond) (p0 : Int32) (a_ONE a_SET a_OPTIONAL a_ARRAY a_INT a_LIST a_BOOLEAN a_NOTHING a_STREAM a_LONG : Addr) (h0 : Heap) (n0 : Nat) (Z0 : n0 ≤ h0.size) (FF : Facts Z h0 a_ONE a_SET a_OPTIONAL a_ARRAY a_INT a_LIST a_BOOLEAN a_NOTHING a_STREAM a_LONG) (hk0 : ((p0 &&& (2147483647 : Int32)) % (10 : Int32)) = (6 : Int32)) :
    MetFree l x (head1 (Jvm.Cond.code x code maxLocals ret :: ws) room_1) (fun a U => a = #[(.int p0)] ∧ Z.Warmed39 U.vm ∧ U.heap = h0) (fun _ _ _ _ _ => True) (fun _ U o U' => ∃ v L, o = .returned v ∧ (v = some (.int (1 : Int32)) ∧ Fr n0 L) ∧ FrameEnd U o U' L room_1.cells room_1.slots) := by
  refine MetFree.of_bodySF (plainFor_of_name pn_0) hisR ?_
  intro p e s m args below meth c s₁ Bd hml0 hP hK
  obtain ⟨rfl, hZ, hh⟩ := hP
  have hx := Bd.exec
  have hby := Bd.bytes
  have hml : c.maxLocals = 5 := hml0
  have hown : s.vm.findClass "com/example/querywright/querywright/derived/ResultShapeHoldsRowsPinLaw" = some m.cls := findClass_of_methodNamed Bd.named
  have X0 : Stand p l e room_1 s m #[(.int p0)] below meth c s₁ [] 0 0 := Stand.of_body Bd
  have e0 : s₁.heap = h0 := by rw [← hh, Bd.state]; rfl
  have N0 := Fr.nil n0
  have pre0 : ∀ t, Steps p.tables e below (s₁.setTop (mkF m 0 #[.val (.int p0), .unset, .unset, .unset, .unset] [])) t → Steps p.tables e below (s₁.setTop (entryFrame m #[(.int p0)] maxLocals)) t := fun t k => castTop (ef_0 m p0) k
  obtain ⟨T1, X1, e1, st1⟩ := getS2 X0 hx hZ hown (host := "") (Or.inl (hw _ (List.mem_of_getElem? (i := 41) rfl))) Via.refl e0 (fx_S_LONG FF) (g := (mkF m 97 #[.val (.int p0), .val (.int (6 : Int32)), .unset, .unset, .unset] [])) rfl (hb hby at_97)
  obtain ⟨cq2, kq2, q2a, q2b, q2c⟩ := isOf hZ e1 (fx_E_LONG FF)
  obtain ⟨_, _, ⟨T2, L2, k2, n2⟩, -, X2, ⟨Lc2, hQ2, l2, y2, z2⟩, st2⟩ := X1.virtualBack hx (y := (⟨"com/example/querywright/querywright/derived/ResultShape", "holdsRows", "()Z"⟩ : MethodName)) (z := (⟨"com/example/querywright/querywright/derived/ResultShape", "holdsRows", "()Z"⟩ : MethodName)) hown (mvT hZ (hw _ (List.mem_of_getElem? (i := 4) rfl))) (mvT hZ (hw _ (List.mem_of_getElem? (i := 5) rfl))) (notFace_of_selects (args := #[]) (mvT hZ (hw _ (List.mem_of_getElem? (i := 7) rfl)))) (mvT hZ (hw _ (List.mem_of_getElem? (i := 7) rfl))) (mvT hZ (hw _ (List.mem_of_getElem? (i := 6) rfl))) (by decide) (backOf (W := 0) (rm1_6 l Z a0 hw [] p0 a_ONE a_SET a_OPTIONAL a_ARRAY a_INT a_LIST a_BOOLEAN a_NOTHING a_STREAM a_LONG h0 n0 (Nat.le_trans Z0 (Nat.le_refl _)) FF) hZ (hw _ (List.mem_of_getElem? (i := 8) rfl)) (hw _ (List.mem_of_getElem? (i := 2) rfl)) (by decide) (by decide)) q2a q2c (g := (mkF m 143 #[.val (.int p0), .val (.int (6 : Int32)), .val (.ref a_LONG), .val (.int (0 : Int32)), .unset] [(.ref a_LONG)])) rfl (by rw [hml]; rfl) (Steps.refl _) (argsL := []) (rest := []) (lenOf pd_1 rfl) rfl (by show 2 * 0 + _ ≤ _; exact Nat.le_of_eq rfl) (hb hby at_143) (fun _ _ => ⟨rfl, e1, (by decide : 0 + 0 ≤ _), (by decide : 0 + 0 ≤ _)⟩)
  dsimp only [Pt.U, Pt.locs, Pt.cells, Pt.slots] at X2 l2 y2 z2 st2 hQ2
  subst l2 y2 z2
  obtain ⟨rfl, N2q, e2⟩ := hQ2
  have N2 := Fr.app N0 N2q
  obtain ⟨cq3, kq3, q3a, q3b, q3c⟩ := isOf hZ e2 (fx_E_LONG FF)
  obtain ⟨_, _, ⟨T3, L3, k3, n3⟩, -, X3, ⟨Lc3, hQ3, l3, y3, z3⟩, st3⟩ := X2.virtualBack hx (y := (⟨"com/example/querywright/querywright/derived/ResultShape", "isSingle", "()Z"⟩ : MethodName)) (z := (⟨"com/example/querywright/querywright/derived/ResultShape", "isSingle", "()Z"⟩ : MethodName)) hown (mvT hZ (hw _ (List.mem_of_getElem? (i := 18) rfl))) (mvT hZ (hw _ (List.mem_of_getElem? (i := 19) rfl))) (notFace_of_selects (args := #[]) (mvT hZ (hw _ (List.mem_of_getElem? (i := 21) rfl)))) (mvT hZ (hw _ (List.mem_of_getElem? (i := 21) rfl))) (mvT hZ (hw _ (List.mem_of_getElem? (i := 20) rfl))) (by decide) (backOf (W := 0) (rm3_6 l Z a0 hw [] p0 a_ONE a_SET a_OPTIONAL a_ARRAY a_INT a_LIST a_BOOLEAN a_NOTHING a_STREAM a_LONG h0 n0 (Nat.le_trans Z0 (Nat.le_refl _)) FF) hZ (hw _ (List.mem_of_getElem? (i := 22) rfl)) (hw _ (List.mem_of_getElem? (i := 2) rfl)) (by decide) (by decide)) q3a q3c (g := (mkF m 155 #[.val (.int p0), .val (.int (6 : Int32)), .val (.ref a_LONG), .val (.int (0 : Int32)), .val (.int (0 : Int32))] [(.ref a_LONG)])) rfl (by rw [hml]; rfl) (Steps.refl _) (argsL := []) (rest := []) (lenOf pd_1 rfl) rfl (by show 2 * 0 + _ ≤ _; exact Nat.le_of_eq rfl) (hb hby at_155) (fun _ _ => ⟨rfl, e2, (by decide : 0 + 0 ≤ _), (by decide : 0 + 0 ≤ _)⟩)
  dsimp only [Pt.U, Pt.locs, Pt.cells, Pt.slots] at X3 l3 y3 z3 st3 hQ3
  subst l3 y3 z3
  obtain ⟨rfl, N3q, e3⟩ := hQ3
  have N3 := Fr.app N2 N3q
  obtain ⟨fs, hr, hrun, hended, hW, hsame⟩ := X3.leave (v := some (.int (1 : Int32))) (fun h => by rw [Bd.returns] at h; cases h)
  refine ⟨_, _, pre0 _ ?_, hrun, hended, _, _, rfl, ?_, ⟨_, rfl⟩, hW, hsame.mono (by decide) (by decide)⟩
  · show Steps p.tables e below (s₁.setTop (mkF m 0 #[.val (.int p0), .unset, .unset, .unset, .unset] [])) _
    refine XS.iloadN X0.here hx rfl (hb hby at_0) rfl ?_
    show Steps p.tables e below (s₁.setTop (mkF m 1 #[.val (.int p0), .unset, .unset, .unset, .unset] [(.int p0)])) _
    refine X0.ldcInt hx hown (mvT hZ (hw _ (List.mem_of_getElem? (i := 0) rfl))) (g := (mkF m 1 #[.val (.int p0), .unset, .unset, .unset, .unset] [(.int p0)])) rfl (hb hby at_1) _ ?_
    show Steps p.tables e below (s₁.setTop (mkF m 3 #[.val (.int p0), .unset, .unset, .unset, .unset] [(.int (2147483647 : Int32)), (.int p0)])) _
    refine XS.iand X0.here hx rfl (hb hby at_3) rfl ?_
    show Steps p.tables e below (s₁.setTop (mkF m 4 #[.val (.int p0), .unset, .unset, .unset, .unset] [(.int (p0 &&& (2147483647 : Int32)))])) _
    refine XS.bipush X0.here hx rfl (hb hby at_4) ?_
    show Steps p.tables e below (s₁.setTop (mkF m 6 #[.val (.int p0), .unset, .unset, .unset, .unset] [(.int (10 : Int32)), (.int (p0 &&& (2147483647 : Int32)))])) _
    refine iremM X0 hx rfl (hb hby at_6) rfl (by decide) ?_
    show Steps p.tables e below (s₁.setTop (mkF m 7 #[.val (.int p0), .unset, .unset, .unset, .unset] [(.int ((p0 &&& (2147483647 : Int32)) % (10 : Int32)))])) _
    rw [hk0]
    show Steps p.tables e below (s₁.setTop (mkF m 7 #[.val (.int p0), .unset, .unset, .unset, .unset] [(.int (6 : Int32))])) _
    refine XS.istoreN X0.here hx rfl (hb hby at_7) rfl (l' := #[.val (.int p0), .val (.int (6 : Int32)), .unset, .unset, .unset]) rfl ?_
    show Steps p.tables e below (s₁.setTop (mkF m 8 #[.val (.int p0), .val (.int (6 : Int32)), .unset, .unset, .unset] [])) _
    refine XS.iloadN X0.here hx rfl (hb hby at_8) rfl ?_
    show Steps p.tables e below (s₁.setTop (mkF m 9 #[.val (.int p0), .val (.int (6 : Int32)), .unset, .unset, .unset] [(.int (6 : Int32))])) _
    refine XS.ifYes X0.here hx rfl (pc0 := 9) (pc' := 21) rfl (hb hby at_9) rfl (by decide) (by decide) (by decide) ?_
    show Steps p.tables e below (s₁.setTop (mkF m 21 #[.val (.int p0), .val (.int (6 : Int32)), .unset, .unset, .unset] [])) _
    refine XS.iloadN X0.here hx rfl (hb hby at_21) rfl ?_
    show Steps p.tables e below (s₁.setTop (mkF m 22 #[.val (.int p0), .val (.int (6 : Int32)), .unset, .unset, .unset] [(.int (6 : Int32))])) _
    refine XS.iconst X0.here hx rfl (hb hby at_22) ?_
    show Steps p.tables e below (s₁.setTop (mkF m 23 #[.val (.int p0), .val (.int (6 : Int32)), .unset, .unset, .unset] [(.int (1 : Int32)), (.int (6 : Int32))])) _
    refine XS.icmpYes X0.here hx rfl (pc0 := 23) (pc' := 35) rfl (hb hby at_23) rfl (by decide) (by decide) (by decide) ?_
    show Steps p.tables e below (s₁.setTop (mkF m 35 #[.val (.int p0), .val (.int (6 : Int32)), .unset, .unset, .unset] [])) _
    refine XS.iloadN X0.here hx rfl (hb hby at_35) rfl ?_
    show Steps p.tables e below (s₁.setTop (mkF m 36 #[.val (.int p0), .val (.int (6 : Int32)), .unset, .unset, .unset] [(.int (6 : Int32))])) _
    refine XS.iconst X0.here hx rfl (hb hby at_36) ?_
    show Steps p.tables e below (s₁.setTop (mkF m 37 #[.val (.int p0), .val (.int (6 : Int32)), .unset, .unset, .unset] [(.int (2 : Int32)), (.int (6 : Int32))])) _
    refine XS.icmpYes X0.here hx rfl (pc0 := 37) (pc' := 49) rfl (hb hby at_37) rfl (by decide) (by decide) (by decide) ?_
    show Steps p.tables e below (s₁.setTop (mkF m 49 #[.val (.int p0), .val (.int (6 : Int32)), .unset, .unset, .unset] [])) _
    refine XS.iloadN X0.here hx rfl (hb hby at_49) rfl ?_
    show Steps p.tables e below (s₁.setTop (mkF m 50 #[.val (.int p0), .val (.int (6 : Int32)), .unset, .unset, .unset] [(.int (6 : Int32))])) _
    refine XS.iconst X0.here hx rfl (hb hby at_50) ?_
    show Steps p.tables e below (s₁.setTop (mkF m 51 #[.val (.int p0), .val (.int (6 : Int32)), .unset, .unset, .unset] [(.int (3 : Int32)), (.int (6 : Int32))])) _
    refine XS.icmpYes X0.here hx rfl (pc0 := 51) (pc' := 63) rfl (hb hby at_51) rfl (by decide) (by decide) (by decide) ?_
    show Steps p.tables e below (s₁.setTop (mkF m 63 #[.val (.int p0), .val (.int (6 : Int32)), .unset, .unset, .unset] [])) _
    refine XS.iloadN X0.here hx rfl (hb hby at_63) rfl ?_
    show Steps p.tables e below (s₁.setTop (mkF m 64 #[.val (.int p0), .val (.int (6 : Int32)), .unset, .unset, .unset] [(.int (6 : Int32))])) _
    refine XS.iconst X0.here hx rfl (hb hby at_64) ?_
    show Steps p.tables e below (s₁.setTop (mkF m 65 #[.val (.int p0), .val (.int (6 : Int32)), .unset, .unset, .unset] [(.int (4 : Int32)), (.int (6 : Int32))])) _
    refine XS.icmpYes X0.here hx rfl (pc0 := 65) (pc' := 77) rfl (hb hby at_65) rfl (by decide) (by decide) (by decide) ?_
    show Steps p.tables e below (s₁.setTop (mkF m 77 #[.val (.int p0), .val (.int (6 : Int32)), .unset, .unset, .unset] [])) _
    refine XS.iloadN X0.here hx rfl (hb hby at_77) rfl ?_
    show Steps p.tables e below (s₁.setTop (mkF m 78 #[.val (.int p0), .val (.int (6 : Int32)), .unset, .unset, .unset] [(.int (6 : Int32))])) _
    refine XS.iconst X0.here hx rfl (hb hby at_78) ?_
    show Steps p.tables e below (s₁.setTop (mkF m 79 #[.val (.int p0), .val (.int (6 : Int32)), .unset, .unset, .unset] [(.int (5 : Int32)), (.int (6 : Int32))])) _
    refine XS.icmpYes X0.here hx rfl (pc0 := 79) (pc' := 91) rfl (hb hby at_79) rfl (by decide) (by decide) (by decide) ?_
    show Steps p.tables e below (s₁.setTop (mkF m 91 #[.val (.int p0), .val (.int (6 : Int32)), .unset, .unset, .unset] [])) _
    refine XS.iloadN X0.here hx rfl (hb hby at_91) rfl ?_
    show Steps p.tables e below (s₁.setTop (mkF m 92 #[.val (.int p0), .val (.int (6 : Int32)), .unset, .unset, .unset] [(.int (6 : Int32))])) _
    refine XS.bipush X0.here hx rfl (hb hby at_92) ?_
    show Steps p.tables e below (s₁.setTop (mkF m 94 #[.val (.int p0), .val (.int (6 : Int32)), .unset, .unset, .unset] [(.int (6 : Int32)), (.int (6 : Int32))])) _
    refine XS.icmpNo X0.here hx rfl (hb hby at_94) rfl (by decide) ?_
    show Steps p.tables e below (s₁.setTop (mkF m 97 #[.val (.int p0), .val (.int (6 : Int32)), .unset, .unset, .unset] [])) _
    refine st1 _ ?_
    show Steps p.tables e below (T1.setTop (mkF m 100 #[.val (.int p0), .val (.int (6 : Int32)), .unset, .unset, .unset] [(.ref a_LONG)])) _
    refine XS.astoreN X1.here hx rfl (hb hby at_100) rfl rfl (l' := #[.val (.int p0), .val (.int (6 : Int32)), .val (.ref a_LONG), .unset, .unset]) rfl ?_
    show Steps p.tables e below (T1.setTop (mkF m 101 #[.val (.int p0), .val (.int (6 : Int32)), .val (.ref a_LONG), .unset, .unset] [])) _
    refine XS.iconst X1.here hx rfl (hb hby at_101) ?_
    show Steps p.tables e below (T1.setTop (mkF m 102 #[.val (.int p0), .val (.int (6 : Int32)), .val (.ref a_LONG), .unset, .unset] [(.int (0 : Int32))])) _
    refine XS.istoreN X1.here hx rfl (hb hby at_102) rfl (l' := #[.val (.int p0), .val (.int (6 : Int32)), .val (.ref a_LONG), .val (.int (0 : Int32)), .unset]) rfl ?_
    show Steps p.tables e below (T1.setTop (mkF m 103 #[.val (.int p0), .val (.int (6 : Int32)), .val (.ref a_LONG), .val (.int (0 : Int32)), .unset] [])) _
    refine XS.goto X1.here hx rfl (pc0 := 103) (pc' := 142) rfl (hb hby at_103) (by decide) (by decide) ?_
    show Steps p.tables e below (T1.setTop (mkF m 142 #[.val (.int p0), .val (.int (6 : Int32)), .val (.ref a_LONG), .val (.int (0 : Int32)), .unset] [])) _
    refine XS.aloadN X1.here hx rfl (hb hby at_142) rfl rfl ?_
    show Steps p.tables e below (T1.setTop (mkF m 143 #[.val (.int p0), .val (.int (6 : Int32)), .val (.ref a_LONG), .val (.int (0 : Int32)), .unset] [(.ref a_LONG)])) _
    refine st2.trans ?_
    show Steps p.tables e below (T2.setTop (mkF m 146 #[.val (.int p0), .val (.int (6 : Int32)), .val (.ref a_LONG), .val (.int (0 : Int32)), .unset] [(.int (0 : Int32))])) _
    refine XS.istore X2.here hx rfl (hb hby at_146) rfl (l' := #[.val (.int p0), .val (.int (6 : Int32)), .val (.ref a_LONG), .val (.int (0 : Int32)), .val (.int (0 : Int32))]) rfl ?_
    show Steps p.tables e below (T2.setTop (mkF m 148 #[.val (.int p0), .val (.int (6 : Int32)), .val (.ref a_LONG), .val (.int (0 : Int32)), .val (.int (0 : Int32))] [])) _
    refine XS.iload X2.here hx rfl (hb hby at_148) rfl ?_
    show Steps p.tables e below (T2.setTop (mkF m 150 #[.val (.int p0), .val (.int (6 : Int32)), .val (.ref a_LONG), .val (.int (0 : Int32)), .val (.int (0 : Int32))] [(.int (0 : Int32))])) _
    refine XS.iloadN X2.here hx rfl (hb hby at_150) rfl ?_
    show Steps p.tables e below (T2.setTop (mkF m 151 #[.val (.int p0), .val (.int (6 : Int32)), .val (.ref a_LONG), .val (.int (0 : Int32)), .val (.int (0 : Int32))] [(.int (0 : Int32)), (.int (0 : Int32))])) _
    refine XS.icmpNo X2.here hx rfl (hb hby at_151) rfl (by decide) ?_
    show Steps p.tables e below (T2.setTop (mkF m 154 #[.val (.int p0), .val (.int (6 : Int32)), .val (.ref a_LONG), .val (.int (0 : Int32)), .val (.int (0 : Int32))] [])) _
    refine XS.aloadN X2.here hx rfl (hb hby at_154) rfl rfl ?_
    show Steps p.tables e below (T2.setTop (mkF m 155 #[.val (.int p0), .val (.int (6 : Int32)), .val (.ref a_LONG), .val (.int (0 : Int32)), .val (.int (0 : Int32))] [(.ref a_LONG)])) _
    refine st3.trans ?_
    show Steps p.tables e below (T3.setTop (mkF m 158 #[.val (.int p0), .val (.int (6 : Int32)), .val (.ref a_LONG), .val (.int (0 : Int32)), .val (.int (0 : Int32))] [(.int (0 : Int32))])) _
    refine XS.ifYes X3.here hx rfl (pc0 := 158) (pc' := 166) rfl (hb hby at_158) rfl (by decide) (by decide) (by decide) ?_
    show Steps p.tables e below (T3.setTop (mkF m 166 #[.val (.int p0), .val (.int (6 : Int32)), .val (.ref a_LONG), .val (.int (0 : Int32)), .val (.int (0 : Int32))] [])) _
    refine XS.iconst X3.here hx rfl (hb hby at_166) ?_
    show Steps p.tables e below (T3.setTop (mkF m 167 #[.val (.int p0), .val (.int (6 : Int32)), .val (.ref a_LONG), .val (.int (0 : Int32)), .val (.int (0 : Int32))] [(.int (1 : Int32))])) _
    refine XS.goto X3.here hx rfl (pc0 := 167) (pc' := 171) rfl (hb hby at_167) (by decide) (by decide) ?_
    show Steps p.tables e below (T3.setTop (mkF m 171 #[.val (.int p0), .val (.int (6 : Int32)), .val (.ref a_LONG), .val (.int (0 : Int32)), .val (.int (0 : Int32))] [(.int (1 : Int32))])) _
    exact retN X3 hx (t := .boolean) Bd.returns (by simp) (hb hby at_171) hr
  · exact ⟨rfl, N3⟩
set_option maxRecDepth 65536 in
set_option maxHeartbeats 40000000 in
theorem rm2_7 (l : Launch) (Z : State) (a0 : Array Value) (hw : ∀ d ∈ tables_1, d.before a0 Z = true) (ws : List Jvm.Cond) (p0 : Int32) (a_ONE a_SET a_OPTIONAL a_ARRAY a_INT a_LIST a_BOOLEAN a_NOTHING a_STREAM a_LONG : Addr) (h0 : Heap) (n0 : Nat) (Z0 : n0 ≤ h0.size) (FF : Facts Z h0 a_ONE a_SET a_OPTIONAL a_ARRAY a_INT a_LIST a_BOOLEAN a_NOTHING a_STREAM a_LONG) :
    MetFree l (⟨"java/lang/Enum", "ordinal", "()I"⟩ : MethodName) (head1 (Jvm.Cond.code (⟨"java/lang/Enum", "ordinal", "()I"⟩ : MethodName) jdk_37_method_2_code 1 (some .int) :: ws) ({ frames := 0, cells := 0, slots := 0, locals := 0 } : Room)) (fun a U => a = #[(.ref a_INT)] ∧ Z.Warmed39 U.vm ∧ U.heap = h0) (fun _ _ _ _ _ => True) (fun _ U o U' => ∃ v L, o = .returned v ∧ own_Q (.int (7 : Int32)) h0 n0 v U'.heap L ∧ FrameEnd U o U' L ({ frames := 0, cells := 0, slots := 0, locals := 0 } : Room).cells ({ frames := 0, cells := 0, slots := 0, locals := 0 } : Room).slots) := by
  refine MetFree.of_bodySF (plainFor_of_name pn_2) hisR ?_
  intro p e s m args below meth c s₁ Bd hml0 hP hK
  obtain ⟨rfl, hZ, hh⟩ := hP
  have hx := Bd.exec
  have hby := Bd.bytes
  have hml : c.maxLocals = 1 := hml0
  have hown : s.vm.findClass "java/lang/Enum" = some m.cls := findClass_of_methodNamed Bd.named
  have X0 : Stand p l e ({ frames := 0, cells := 0, slots := 0, locals := 0 } : Room) s m #[(.ref a_INT)] below meth c s₁ [] 0 0 := Stand.of_body Bd
  have e0 : s₁.heap = h0 := by rw [← hh, Bd.state]; rfl
  have N0 := Fr.nil n0
  have pre0 : ∀ t, Steps p.tables e below (s₁.setTop (mkF m 0 #[.val (.ref a_INT)] [])) t → Steps p.tables e below (s₁.setTop (entryFrame m #[(.ref a_INT)] 1)) t := fun t k => castTop (ef_2 m a_INT) k
  obtain ⟨T1, X1, e1, st1⟩ := getF X0 hx hZ hown (host := "") (Or.inl (hw _ (List.mem_of_getElem? (i := 16) rfl))) Via.refl e0 (fx_F_INT_ordinal FF) (g := (mkF m 1 #[.val (.ref a_INT)] [(.ref a_INT)])) rfl rfl (hb hby d2_1)
  obtain ⟨fs, hr, hrun, hended, hW, hsame⟩ := X1.leave (v := some (.int (7 : Int32))) (fun h => by rw [Bd.returns] at h; cases h)
  refine ⟨_, _, pre0 _ ?_, hrun, hended, _, _, rfl, ?_, ⟨_, rfl⟩, hW, hsame.mono (by decide) (by decide)⟩
  · show Steps p.tables e below (s₁.setTop (mkF m 0 #[.val (.ref a_INT)] [])) _
    refine XS.aloadN X0.here hx rfl (hb hby d2_0) rfl rfl ?_
    show Steps p.tables e below (s₁.setTop (mkF m 1 #[.val (.ref a_INT)] [(.ref a_INT)])) _
    refine st1 _ ?_
    show Steps p.tables e below (T1.setTop (mkF m 4 #[.val (.ref a_INT)] [(.int (7 : Int32))])) _
    exact retI X1 hx Bd.returns (hb hby d2_4) hr
  · show own_Q _ _ _ _ T1.heap _
    exact ⟨rfl, N0, e1⟩
set_option maxRecDepth 65536 in
set_option maxHeartbeats 40000000 in
theorem rm1_7 (l : Launch) (Z : State) (a0 : Array Value) (hw : ∀ d ∈ tables_1, d.before a0 Z = true) (ws : List Jvm.Cond) (p0 : Int32) (a_ONE a_SET a_OPTIONAL a_ARRAY a_INT a_LIST a_BOOLEAN a_NOTHING a_STREAM a_LONG : Addr) (h0 : Heap) (n0 : Nat) (Z0 : n0 ≤ h0.size) (FF : Facts Z h0 a_ONE a_SET a_OPTIONAL a_ARRAY a_INT a_LIST a_BOOLEAN a_NOTHING a_STREAM a_LONG) :
    MetFree l (⟨"com/example/querywright/querywright/derived/ResultShape", "holdsRows", "()Z"⟩ : MethodName) (head1 (Jvm.Cond.code (⟨"com/example/querywright/querywright/derived/ResultShape", "holdsRows", "()Z"⟩ : MethodName) prog_24_method_6_code 1 (some .boolean) :: ws) ({ frames := 1, cells := 0, slots := 0, locals := 12 } : Room)) (fun a U => a = #[(.ref a_INT)] ∧ Z.Warmed39 U.vm ∧ U.heap = h0) (fun _ _ _ _ _ => True) (fun _ U o U' => ∃ v L, o = .returned v ∧ own_Q (.int (0 : Int32)) h0 n0 v U'.heap L ∧ FrameEnd U o U' L ({ frames := 1, cells := 0, slots := 0, locals := 12 } : Room).cells ({ frames := 1, cells := 0, slots := 0, locals := 12 } : Room).slots) := by
  refine MetFree.of_bodySF (plainFor_of_name pn_1) hisR ?_
  intro p e s m args below meth c s₁ Bd hml0 hP hK
  obtain ⟨rfl, hZ, hh⟩ := hP
  have hx := Bd.exec
  have hby := Bd.bytes
  have hml : c.maxLocals = 1 := hml0
  have hown : s.vm.findClass "com/example/querywright/querywright/derived/ResultShape" = some m.cls := findClass_of_methodNamed Bd.named
  have X0 : Stand p l e ({ frames := 1, cells := 0, slots := 0, locals := 12 } : Room) s m #[(.ref a_INT)] below meth c s₁ [] 0 0 := Stand.of_body Bd
  have e0 : s₁.heap = h0 := by rw [← hh, Bd.state]; rfl
  have N0 := Fr.nil n0
  have pre0 : ∀ t, Steps p.tables e below (s₁.setTop (mkF m 0 #[.val (.ref a_INT)] [])) t → Steps p.tables e below (s₁.setTop (entryFrame m #[(.ref a_INT)] 1)) t := fun t k => castTop (ef_1 m a_INT) k
  obtain ⟨cq1, kq1, q1a, q1b, q1c⟩ := isOf hZ e0 (fx_E_INT FF)
  obtain ⟨_, _, ⟨T1, L1, k1, n1⟩, -, X1, ⟨Lc1, hQ1, l1, y1, z1⟩, st1⟩ := X0.virtualBackUp hx (owner := "java/lang/Enum") (x := (⟨"com/example/querywright/querywright/derived/ResultShape", "ordinal", "()I"⟩ : MethodName)) (y := (⟨"java/lang/Enum", "ordinal", "()I"⟩ : MethodName)) hown (mvT hZ (hw _ (List.mem_of_getElem? (i := 9) rfl))) (mvT hZ (hw _ (List.mem_of_getElem? (i := 10) rfl))) (mvT hZ (hw _ (List.mem_of_getElem? (i := 11) rfl))) (by decide) (mvT hZ (hw _ (List.mem_of_getElem? (i := 13) rfl))) (mvT hZ (hw _ (List.mem_of_getElem? (i := 12) rfl))) (backOf (W := 0) (rm2_7 l Z a0 hw [] p0 a_ONE a_SET a_OPTIONAL a_ARRAY a_INT a_LIST a_BOOLEAN a_NOTHING a_STREAM a_LONG h0 n0 (Nat.le_trans Z0 (Nat.le_refl _)) FF) hZ (hw _ (List.mem_of_getElem? (i := 15) rfl)) (hw _ (List.mem_of_getElem? (i := 14) rfl)) (by decide) (by decide)) q1a q1c (g := (mkF m 1 #[.val (.ref a_INT)] [(.ref a_INT)])) rfl (by rw [hml]; rfl) (Steps.refl _) (argsL := []) (rest := []) (lenOf pd_0 rfl) rfl (by show 2 * 0 + _ ≤ _; exact Nat.le_of_eq rfl) (hb hby d1_1) (fun _ _ => ⟨rfl, e0, (by decide : 0 + 0 ≤ _), (by decide : 0 + 0 ≤ _)⟩)
  dsimp only [Pt.U, Pt.locs, Pt.cells, Pt.slots] at X1 l1 y1 z1 st1 hQ1
  subst l1 y1 z1
  obtain ⟨rfl, N1q, e1⟩ := hQ1
  have N1 := Fr.app N0 N1q
  obtain ⟨fs, hr, hrun, hended, hW, hsame⟩ := X1.leave (v := some (.int (0 : Int32))) (fun h => by rw [Bd.returns] at h; cases h)
  refine ⟨_, _, pre0 _ ?_, hrun, hended, _, _, rfl, ?_, ⟨_, rfl⟩, hW, hsame.mono (by decide) (by decide)⟩
  · show Steps p.tables e below (s₁.setTop (mkF m 0 #[.val (.ref a_INT)] [])) _
    refine XS.aloadN X0.here hx rfl (hb hby d1_0) rfl rfl ?_
    show Steps p.tables e below (s₁.setTop (mkF m 1 #[.val (.ref a_INT)] [(.ref a_INT)])) _
    refine st1.trans ?_
    show Steps p.tables e below (T1.setTop (mkF m 4 #[.val (.ref a_INT)] [(.int (7 : Int32))])) _
    refine XS.tswIn X1.here hx rfl (o := 70) (pc0 := 4) (pc' := 74) rfl (hb hby d1_4) rfl (by decide) rfl (by decide) (by decide) ?_
    show Steps p.tables e below (T1.setTop (mkF m 74 #[.val (.ref a_INT)] [])) _
    refine XS.iconst X1.here hx rfl (hb hby d1_74) ?_
    show Steps p.tables e below (T1.setTop (mkF m 75 #[.val (.ref a_INT)] [(.int (0 : Int32))])) _
    exact retN X1 hx (t := .boolean) Bd.returns (by simp) (hb hby d1_75) hr
  · show own_Q _ _ _ _ T1.heap _
    exact ⟨rfl, N1, e1⟩
set_option maxRecDepth 65536 in
set_option maxHeartbeats 40000000 in
theorem rm3_7 (l : Launch) (Z : State) (a0 : Array Value) (hw : ∀ d ∈ tables_1, d.before a0 Z = true) (ws : List Jvm.Cond) (p0 : Int32) (a_ONE a_SET a_OPTIONAL a_ARRAY a_INT a_LIST a_BOOLEAN a_NOTHING a_STREAM a_LONG : Addr) (h0 : Heap) (n0 : Nat) (Z0 : n0 ≤ h0.size) (FF : Facts Z h0 a_ONE a_SET a_OPTIONAL a_ARRAY a_INT a_LIST a_BOOLEAN a_NOTHING a_STREAM a_LONG) :
    MetFree l (⟨"com/example/querywright/querywright/derived/ResultShape", "isSingle", "()Z"⟩ : MethodName) (head1 (Jvm.Cond.code (⟨"com/example/querywright/querywright/derived/ResultShape", "isSingle", "()Z"⟩ : MethodName) prog_24_method_7_code 1 (some .boolean) :: ws) ({ frames := 0, cells := 0, slots := 0, locals := 0 } : Room)) (fun a U => a = #[(.ref a_INT)] ∧ Z.Warmed39 U.vm ∧ U.heap = h0) (fun _ _ _ _ _ => True) (fun _ U o U' => ∃ v L, o = .returned v ∧ own_Q (.int (0 : Int32)) h0 n0 v U'.heap L ∧ FrameEnd U o U' L ({ frames := 0, cells := 0, slots := 0, locals := 0 } : Room).cells ({ frames := 0, cells := 0, slots := 0, locals := 0 } : Room).slots) := by
  refine MetFree.of_bodySF (plainFor_of_name pn_3) hisR ?_
  intro p e s m args below meth c s₁ Bd hml0 hP hK
  obtain ⟨rfl, hZ, hh⟩ := hP
  have hx := Bd.exec
  have hby := Bd.bytes
  have hml : c.maxLocals = 1 := hml0
  have hown : s.vm.findClass "com/example/querywright/querywright/derived/ResultShape" = some m.cls := findClass_of_methodNamed Bd.named
  have X0 : Stand p l e ({ frames := 0, cells := 0, slots := 0, locals := 0 } : Room) s m #[(.ref a_INT)] below meth c s₁ [] 0 0 := Stand.of_body Bd
  have e0 : s₁.heap = h0 := by rw [← hh, Bd.state]; rfl
  have N0 := Fr.nil n0
  have pre0 : ∀ t, Steps p.tables e below (s₁.setTop (mkF m 0 #[.val (.ref a_INT)] [])) t → Steps p.tables e below (s₁.setTop (entryFrame m #[(.ref a_INT)] 1)) t := fun t k => castTop (ef_3 m a_INT) k
  obtain ⟨T1, X1, e1, st1⟩ := getS2 X0 hx hZ hown (host := "") (Or.inl (hw _ (List.mem_of_getElem? (i := 23) rfl))) Via.refl e0 (fx_S_ONE FF) (g := (mkF m 1 #[.val (.ref a_INT)] [(.ref a_INT)])) rfl (hb hby d3_1)
  obtain ⟨T2, X2, e2, st2⟩ := getS2 X1 hx hZ hown (host := "") (Or.inl (hw _ (List.mem_of_getElem? (i := 26) rfl))) Via.refl e1 (fx_S_OPTIONAL FF) (g := (mkF m 8 #[.val (.ref a_INT)] [(.ref a_INT)])) rfl (hb hby d3_8)
  obtain ⟨fs, hr, hrun, hended, hW, hsame⟩ := X2.leave (v := some (.int (0 : Int32))) (fun h => by rw [Bd.returns] at h; cases h)
  refine ⟨_, _, pre0 _ ?_, hrun, hended, _, _, rfl, ?_, ⟨_, rfl⟩, hW, hsame.mono (by decide) (by decide)⟩
  · show Steps p.tables e below (s₁.setTop (mkF m 0 #[.val (.ref a_INT)] [])) _
    refine XS.aloadN X0.here hx rfl (hb hby d3_0) rfl rfl ?_
    show Steps p.tables e below (s₁.setTop (mkF m 1 #[.val (.ref a_INT)] [(.ref a_INT)])) _
    refine st1 _ ?_
    show Steps p.tables e below (T1.setTop (mkF m 4 #[.val (.ref a_INT)] [(.ref a_ONE), (.ref a_INT)])) _
    refine Jvm.RoadKit.acmp (g := (mkF m 4 #[.val (.ref a_INT)] [(.ref a_ONE), (.ref a_INT)])) X1 hx rfl rfl rfl (pc0 := 4) (pc' := 7) (same := false) rfl (hb hby d3_4) rfl (decide_eq_false fun q => Fld.ne (fx_F_INT_ordinal FF) (fx_F_ONE_ordinal FF) (by decide) (Value.ref.inj q)) (by decide) (by decide) ?_
    show Steps p.tables e below (T1.setTop (mkF m 7 #[.val (.ref a_INT)] [])) _
    refine XS.aloadN X1.here hx rfl (hb hby d3_7) rfl rfl ?_
    show Steps p.tables e below (T1.setTop (mkF m 8 #[.val (.ref a_INT)] [(.ref a_INT)])) _
    refine st2 _ ?_
    show Steps p.tables e below (T2.setTop (mkF m 11 #[.val (.ref a_INT)] [(.ref a_OPTIONAL), (.ref a_INT)])) _
    refine Jvm.RoadKit.acmp (g := (mkF m 11 #[.val (.ref a_INT)] [(.ref a_OPTIONAL), (.ref a_INT)])) X2 hx rfl rfl rfl (pc0 := 11) (pc' := 18) (same := false) rfl (hb hby d3_11) rfl (decide_eq_false fun q => Fld.ne (fx_F_INT_ordinal FF) (fx_F_OPTIONAL_ordinal FF) (by decide) (Value.ref.inj q)) (by decide) (by decide) ?_
    show Steps p.tables e below (T2.setTop (mkF m 18 #[.val (.ref a_INT)] [])) _
    refine XS.iconst X2.here hx rfl (hb hby d3_18) ?_
    show Steps p.tables e below (T2.setTop (mkF m 19 #[.val (.ref a_INT)] [(.int (0 : Int32))])) _
    exact retN X2 hx (t := .boolean) Bd.returns (by simp) (hb hby d3_19) hr
  · show own_Q _ _ _ _ T2.heap _
    exact ⟨rfl, N0, e2⟩
set_option maxRecDepth 65536 in
set_option maxHeartbeats 40000000 in
theorem rm0_7 (l : Launch) (Z : State) (a0 : Array Value) (hw : ∀ d ∈ tables_1, d.before a0 Z = true) (ws : List Jvm.Cond) (p0 : Int32) (a_ONE a_SET a_OPTIONAL a_ARRAY a_INT a_LIST a_BOOLEAN a_NOTHING a_STREAM a_LONG : Addr) (h0 : Heap) (n0 : Nat) (Z0 : n0 ≤ h0.size) (FF : Facts Z h0 a_ONE a_SET a_OPTIONAL a_ARRAY a_INT a_LIST a_BOOLEAN a_NOTHING a_STREAM a_LONG) (hk0 : ((p0 &&& (2147483647 : Int32)) % (10 : Int32)) = (7 : Int32)) :
    MetFree l x (head1 (Jvm.Cond.code x code maxLocals ret :: ws) room_1) (fun a U => a = #[(.int p0)] ∧ Z.Warmed39 U.vm ∧ U.heap = h0) (fun _ _ _ _ _ => True) (fun _ U o U' => ∃ v L, o = .returned v ∧ (v = some (.int (1 : Int32)) ∧ Fr n0 L) ∧ FrameEnd U o U' L room_1.cells room_1.slots) := by
  refine MetFree.of_bodySF (plainFor_of_name pn_0) hisR ?_
  intro p e s m args below meth c s₁ Bd hml0 hP hK
  obtain ⟨rfl, hZ, hh⟩ := hP
  have hx := Bd.exec
  have hby := Bd.bytes
  have hml : c.maxLocals = 5 := hml0
  have hown : s.vm.findClass "com/example/querywright/querywright/derived/ResultShapeHoldsRowsPinLaw" = some m.cls := findClass_of_methodNamed Bd.named
  have X0 : Stand p l e room_1 s m #[(.int p0)] below meth c s₁ [] 0 0 := Stand.of_body Bd
  have e0 : s₁.heap = h0 := by rw [← hh, Bd.state]; rfl
  have N0 := Fr.nil n0
  have pre0 : ∀ t, Steps p.tables e below (s₁.setTop (mkF m 0 #[.val (.int p0), .unset, .unset, .unset, .unset] [])) t → Steps p.tables e below (s₁.setTop (entryFrame m #[(.int p0)] maxLocals)) t := fun t k => castTop (ef_0 m p0) k
  obtain ⟨T1, X1, e1, st1⟩ := getS2 X0 hx hZ hown (host := "") (Or.inl (hw _ (List.mem_of_getElem? (i := 31) rfl))) Via.refl e0 (fx_S_INT FF) (g := (mkF m 112 #[.val (.int p0), .val (.int (7 : Int32)), .unset, .unset, .unset] [])) rfl (hb hby at_112)
  obtain ⟨cq2, kq2, q2a, q2b, q2c⟩ := isOf hZ e1 (fx_E_INT FF)
  obtain ⟨_, _, ⟨T2, L2, k2, n2⟩, -, X2, ⟨Lc2, hQ2, l2, y2, z2⟩, st2⟩ := X1.virtualBack hx (y := (⟨"com/example/querywright/querywright/derived/ResultShape", "holdsRows", "()Z"⟩ : MethodName)) (z := (⟨"com/example/querywright/querywright/derived/ResultShape", "holdsRows", "()Z"⟩ : MethodName)) hown (mvT hZ (hw _ (List.mem_of_getElem? (i := 4) rfl))) (mvT hZ (hw _ (List.mem_of_getElem? (i := 5) rfl))) (notFace_of_selects (args := #[]) (mvT hZ (hw _ (List.mem_of_getElem? (i := 7) rfl)))) (mvT hZ (hw _ (List.mem_of_getElem? (i := 7) rfl))) (mvT hZ (hw _ (List.mem_of_getElem? (i := 6) rfl))) (by decide) (backOf (W := 0) (rm1_7 l Z a0 hw [] p0 a_ONE a_SET a_OPTIONAL a_ARRAY a_INT a_LIST a_BOOLEAN a_NOTHING a_STREAM a_LONG h0 n0 (Nat.le_trans Z0 (Nat.le_refl _)) FF) hZ (hw _ (List.mem_of_getElem? (i := 8) rfl)) (hw _ (List.mem_of_getElem? (i := 2) rfl)) (by decide) (by decide)) q2a q2c (g := (mkF m 143 #[.val (.int p0), .val (.int (7 : Int32)), .val (.ref a_INT), .val (.int (0 : Int32)), .unset] [(.ref a_INT)])) rfl (by rw [hml]; rfl) (Steps.refl _) (argsL := []) (rest := []) (lenOf pd_1 rfl) rfl (by show 2 * 0 + _ ≤ _; exact Nat.le_of_eq rfl) (hb hby at_143) (fun _ _ => ⟨rfl, e1, (by decide : 0 + 0 ≤ _), (by decide : 0 + 0 ≤ _)⟩)
  dsimp only [Pt.U, Pt.locs, Pt.cells, Pt.slots] at X2 l2 y2 z2 st2 hQ2
  subst l2 y2 z2
  obtain ⟨rfl, N2q, e2⟩ := hQ2
  have N2 := Fr.app N0 N2q
  obtain ⟨cq3, kq3, q3a, q3b, q3c⟩ := isOf hZ e2 (fx_E_INT FF)
  obtain ⟨_, _, ⟨T3, L3, k3, n3⟩, -, X3, ⟨Lc3, hQ3, l3, y3, z3⟩, st3⟩ := X2.virtualBack hx (y := (⟨"com/example/querywright/querywright/derived/ResultShape", "isSingle", "()Z"⟩ : MethodName)) (z := (⟨"com/example/querywright/querywright/derived/ResultShape", "isSingle", "()Z"⟩ : MethodName)) hown (mvT hZ (hw _ (List.mem_of_getElem? (i := 18) rfl))) (mvT hZ (hw _ (List.mem_of_getElem? (i := 19) rfl))) (notFace_of_selects (args := #[]) (mvT hZ (hw _ (List.mem_of_getElem? (i := 21) rfl)))) (mvT hZ (hw _ (List.mem_of_getElem? (i := 21) rfl))) (mvT hZ (hw _ (List.mem_of_getElem? (i := 20) rfl))) (by decide) (backOf (W := 0) (rm3_7 l Z a0 hw [] p0 a_ONE a_SET a_OPTIONAL a_ARRAY a_INT a_LIST a_BOOLEAN a_NOTHING a_STREAM a_LONG h0 n0 (Nat.le_trans Z0 (Nat.le_refl _)) FF) hZ (hw _ (List.mem_of_getElem? (i := 22) rfl)) (hw _ (List.mem_of_getElem? (i := 2) rfl)) (by decide) (by decide)) q3a q3c (g := (mkF m 155 #[.val (.int p0), .val (.int (7 : Int32)), .val (.ref a_INT), .val (.int (0 : Int32)), .val (.int (0 : Int32))] [(.ref a_INT)])) rfl (by rw [hml]; rfl) (Steps.refl _) (argsL := []) (rest := []) (lenOf pd_1 rfl) rfl (by show 2 * 0 + _ ≤ _; exact Nat.le_of_eq rfl) (hb hby at_155) (fun _ _ => ⟨rfl, e2, (by decide : 0 + 0 ≤ _), (by decide : 0 + 0 ≤ _)⟩)
  dsimp only [Pt.U, Pt.locs, Pt.cells, Pt.slots] at X3 l3 y3 z3 st3 hQ3
  subst l3 y3 z3
  obtain ⟨rfl, N3q, e3⟩ := hQ3
  have N3 := Fr.app N2 N3q
  obtain ⟨fs, hr, hrun, hended, hW, hsame⟩ := X3.leave (v := some (.int (1 : Int32))) (fun h => by rw [Bd.returns] at h; cases h)
  refine ⟨_, _, pre0 _ ?_, hrun, hended, _, _, rfl, ?_, ⟨_, rfl⟩, hW, hsame.mono (by decide) (by decide)⟩
  · show Steps p.tables e below (s₁.setTop (mkF m 0 #[.val (.int p0), .unset, .unset, .unset, .unset] [])) _
    refine XS.iloadN X0.here hx rfl (hb hby at_0) rfl ?_
    show Steps p.tables e below (s₁.setTop (mkF m 1 #[.val (.int p0), .unset, .unset, .unset, .unset] [(.int p0)])) _
    refine X0.ldcInt hx hown (mvT hZ (hw _ (List.mem_of_getElem? (i := 0) rfl))) (g := (mkF m 1 #[.val (.int p0), .unset, .unset, .unset, .unset] [(.int p0)])) rfl (hb hby at_1) _ ?_
    show Steps p.tables e below (s₁.setTop (mkF m 3 #[.val (.int p0), .unset, .unset, .unset, .unset] [(.int (2147483647 : Int32)), (.int p0)])) _
    refine XS.iand X0.here hx rfl (hb hby at_3) rfl ?_
    show Steps p.tables e below (s₁.setTop (mkF m 4 #[.val (.int p0), .unset, .unset, .unset, .unset] [(.int (p0 &&& (2147483647 : Int32)))])) _
    refine XS.bipush X0.here hx rfl (hb hby at_4) ?_
    show Steps p.tables e below (s₁.setTop (mkF m 6 #[.val (.int p0), .unset, .unset, .unset, .unset] [(.int (10 : Int32)), (.int (p0 &&& (2147483647 : Int32)))])) _
    refine iremM X0 hx rfl (hb hby at_6) rfl (by decide) ?_
    show Steps p.tables e below (s₁.setTop (mkF m 7 #[.val (.int p0), .unset, .unset, .unset, .unset] [(.int ((p0 &&& (2147483647 : Int32)) % (10 : Int32)))])) _
    rw [hk0]
    show Steps p.tables e below (s₁.setTop (mkF m 7 #[.val (.int p0), .unset, .unset, .unset, .unset] [(.int (7 : Int32))])) _
    refine XS.istoreN X0.here hx rfl (hb hby at_7) rfl (l' := #[.val (.int p0), .val (.int (7 : Int32)), .unset, .unset, .unset]) rfl ?_
    show Steps p.tables e below (s₁.setTop (mkF m 8 #[.val (.int p0), .val (.int (7 : Int32)), .unset, .unset, .unset] [])) _
    refine XS.iloadN X0.here hx rfl (hb hby at_8) rfl ?_
    show Steps p.tables e below (s₁.setTop (mkF m 9 #[.val (.int p0), .val (.int (7 : Int32)), .unset, .unset, .unset] [(.int (7 : Int32))])) _
    refine XS.ifYes X0.here hx rfl (pc0 := 9) (pc' := 21) rfl (hb hby at_9) rfl (by decide) (by decide) (by decide) ?_
    show Steps p.tables e below (s₁.setTop (mkF m 21 #[.val (.int p0), .val (.int (7 : Int32)), .unset, .unset, .unset] [])) _
    refine XS.iloadN X0.here hx rfl (hb hby at_21) rfl ?_
    show Steps p.tables e below (s₁.setTop (mkF m 22 #[.val (.int p0), .val (.int (7 : Int32)), .unset, .unset, .unset] [(.int (7 : Int32))])) _
    refine XS.iconst X0.here hx rfl (hb hby at_22) ?_
    show Steps p.tables e below (s₁.setTop (mkF m 23 #[.val (.int p0), .val (.int (7 : Int32)), .unset, .unset, .unset] [(.int (1 : Int32)), (.int (7 : Int32))])) _
    refine XS.icmpYes X0.here hx rfl (pc0 := 23) (pc' := 35) rfl (hb hby at_23) rfl (by decide) (by decide) (by decide) ?_
    show Steps p.tables e below (s₁.setTop (mkF m 35 #[.val (.int p0), .val (.int (7 : Int32)), .unset, .unset, .unset] [])) _
    refine XS.iloadN X0.here hx rfl (hb hby at_35) rfl ?_
    show Steps p.tables e below (s₁.setTop (mkF m 36 #[.val (.int p0), .val (.int (7 : Int32)), .unset, .unset, .unset] [(.int (7 : Int32))])) _
    refine XS.iconst X0.here hx rfl (hb hby at_36) ?_
    show Steps p.tables e below (s₁.setTop (mkF m 37 #[.val (.int p0), .val (.int (7 : Int32)), .unset, .unset, .unset] [(.int (2 : Int32)), (.int (7 : Int32))])) _
    refine XS.icmpYes X0.here hx rfl (pc0 := 37) (pc' := 49) rfl (hb hby at_37) rfl (by decide) (by decide) (by decide) ?_
    show Steps p.tables e below (s₁.setTop (mkF m 49 #[.val (.int p0), .val (.int (7 : Int32)), .unset, .unset, .unset] [])) _
    refine XS.iloadN X0.here hx rfl (hb hby at_49) rfl ?_
    show Steps p.tables e below (s₁.setTop (mkF m 50 #[.val (.int p0), .val (.int (7 : Int32)), .unset, .unset, .unset] [(.int (7 : Int32))])) _
    refine XS.iconst X0.here hx rfl (hb hby at_50) ?_
    show Steps p.tables e below (s₁.setTop (mkF m 51 #[.val (.int p0), .val (.int (7 : Int32)), .unset, .unset, .unset] [(.int (3 : Int32)), (.int (7 : Int32))])) _
    refine XS.icmpYes X0.here hx rfl (pc0 := 51) (pc' := 63) rfl (hb hby at_51) rfl (by decide) (by decide) (by decide) ?_
    show Steps p.tables e below (s₁.setTop (mkF m 63 #[.val (.int p0), .val (.int (7 : Int32)), .unset, .unset, .unset] [])) _
    refine XS.iloadN X0.here hx rfl (hb hby at_63) rfl ?_
    show Steps p.tables e below (s₁.setTop (mkF m 64 #[.val (.int p0), .val (.int (7 : Int32)), .unset, .unset, .unset] [(.int (7 : Int32))])) _
    refine XS.iconst X0.here hx rfl (hb hby at_64) ?_
    show Steps p.tables e below (s₁.setTop (mkF m 65 #[.val (.int p0), .val (.int (7 : Int32)), .unset, .unset, .unset] [(.int (4 : Int32)), (.int (7 : Int32))])) _
    refine XS.icmpYes X0.here hx rfl (pc0 := 65) (pc' := 77) rfl (hb hby at_65) rfl (by decide) (by decide) (by decide) ?_
    show Steps p.tables e below (s₁.setTop (mkF m 77 #[.val (.int p0), .val (.int (7 : Int32)), .unset, .unset, .unset] [])) _
    refine XS.iloadN X0.here hx rfl (hb hby at_77) rfl ?_
    show Steps p.tables e below (s₁.setTop (mkF m 78 #[.val (.int p0), .val (.int (7 : Int32)), .unset, .unset, .unset] [(.int (7 : Int32))])) _
    refine XS.iconst X0.here hx rfl (hb hby at_78) ?_
    show Steps p.tables e below (s₁.setTop (mkF m 79 #[.val (.int p0), .val (.int (7 : Int32)), .unset, .unset, .unset] [(.int (5 : Int32)), (.int (7 : Int32))])) _
    refine XS.icmpYes X0.here hx rfl (pc0 := 79) (pc' := 91) rfl (hb hby at_79) rfl (by decide) (by decide) (by decide) ?_
    show Steps p.tables e below (s₁.setTop (mkF m 91 #[.val (.int p0), .val (.int (7 : Int32)), .unset, .unset, .unset] [])) _
    refine XS.iloadN X0.here hx rfl (hb hby at_91) rfl ?_
    show Steps p.tables e below (s₁.setTop (mkF m 92 #[.val (.int p0), .val (.int (7 : Int32)), .unset, .unset, .unset] [(.int (7 : Int32))])) _
    refine XS.bipush X0.here hx rfl (hb hby at_92) ?_
    show Steps p.tables e below (s₁.setTop (mkF m 94 #[.val (.int p0), .val (.int (7 : Int32)), .unset, .unset, .unset] [(.int (6 : Int32)), (.int (7 : Int32))])) _
    refine XS.icmpYes X0.here hx rfl (pc0 := 94) (pc' := 106) rfl (hb hby at_94) rfl (by decide) (by decide) (by decide) ?_
    show Steps p.tables e below (s₁.setTop (mkF m 106 #[.val (.int p0), .val (.int (7 : Int32)), .unset, .unset, .unset] [])) _
    refine XS.iloadN X0.here hx rfl (hb hby at_106) rfl ?_
    show Steps p.tables e below (s₁.setTop (mkF m 107 #[.val (.int p0), .val (.int (7 : Int32)), .unset, .unset, .unset] [(.int (7 : Int32))])) _
    refine XS.bipush X0.here hx rfl (hb hby at_107) ?_
    show Steps p.tables e below (s₁.setTop (mkF m 109 #[.val (.int p0), .val (.int (7 : Int32)), .unset, .unset, .unset] [(.int (7 : Int32)), (.int (7 : Int32))])) _
    refine XS.icmpNo X0.here hx rfl (hb hby at_109) rfl (by decide) ?_
    show Steps p.tables e below (s₁.setTop (mkF m 112 #[.val (.int p0), .val (.int (7 : Int32)), .unset, .unset, .unset] [])) _
    refine st1 _ ?_
    show Steps p.tables e below (T1.setTop (mkF m 115 #[.val (.int p0), .val (.int (7 : Int32)), .unset, .unset, .unset] [(.ref a_INT)])) _
    refine XS.astoreN X1.here hx rfl (hb hby at_115) rfl rfl (l' := #[.val (.int p0), .val (.int (7 : Int32)), .val (.ref a_INT), .unset, .unset]) rfl ?_
    show Steps p.tables e below (T1.setTop (mkF m 116 #[.val (.int p0), .val (.int (7 : Int32)), .val (.ref a_INT), .unset, .unset] [])) _
    refine XS.iconst X1.here hx rfl (hb hby at_116) ?_
    show Steps p.tables e below (T1.setTop (mkF m 117 #[.val (.int p0), .val (.int (7 : Int32)), .val (.ref a_INT), .unset, .unset] [(.int (0 : Int32))])) _
    refine XS.istoreN X1.here hx rfl (hb hby at_117) rfl (l' := #[.val (.int p0), .val (.int (7 : Int32)), .val (.ref a_INT), .val (.int (0 : Int32)), .unset]) rfl ?_
    show Steps p.tables e below (T1.setTop (mkF m 118 #[.val (.int p0), .val (.int (7 : Int32)), .val (.ref a_INT), .val (.int (0 : Int32)), .unset] [])) _
    refine XS.goto X1.here hx rfl (pc0 := 118) (pc' := 142) rfl (hb hby at_118) (by decide) (by decide) ?_
    show Steps p.tables e below (T1.setTop (mkF m 142 #[.val (.int p0), .val (.int (7 : Int32)), .val (.ref a_INT), .val (.int (0 : Int32)), .unset] [])) _
    refine XS.aloadN X1.here hx rfl (hb hby at_142) rfl rfl ?_
    show Steps p.tables e below (T1.setTop (mkF m 143 #[.val (.int p0), .val (.int (7 : Int32)), .val (.ref a_INT), .val (.int (0 : Int32)), .unset] [(.ref a_INT)])) _
    refine st2.trans ?_
    show Steps p.tables e below (T2.setTop (mkF m 146 #[.val (.int p0), .val (.int (7 : Int32)), .val (.ref a_INT), .val (.int (0 : Int32)), .unset] [(.int (0 : Int32))])) _
    refine XS.istore X2.here hx rfl (hb hby at_146) rfl (l' := #[.val (.int p0), .val (.int (7 : Int32)), .val (.ref a_INT), .val (.int (0 : Int32)), .val (.int (0 : Int32))]) rfl ?_
    show Steps p.tables e below (T2.setTop (mkF m 148 #[.val (.int p0), .val (.int (7 : Int32)), .val (.ref a_INT), .val (.int (0 : Int32)), .val (.int (0 : Int32))] [])) _
    refine XS.iload X2.here hx rfl (hb hby at_148) rfl ?_
    show Steps p.tables e below (T2.setTop (mkF m 150 #[.val (.int p0), .val (.int (7 : Int32)), .val (.ref a_INT), .val (.int (0 : Int32)), .val (.int (0 : Int32))] [(.int (0 : Int32))])) _
    refine XS.iloadN X2.here hx rfl (hb hby at_150) rfl ?_
    show Steps p.tables e below (T2.setTop (mkF m 151 #[.val (.int p0), .val (.int (7 : Int32)), .val (.ref a_INT), .val (.int (0 : Int32)), .val (.int (0 : Int32))] [(.int (0 : Int32)), (.int (0 : Int32))])) _
    refine XS.icmpNo X2.here hx rfl (hb hby at_151) rfl (by decide) ?_
    show Steps p.tables e below (T2.setTop (mkF m 154 #[.val (.int p0), .val (.int (7 : Int32)), .val (.ref a_INT), .val (.int (0 : Int32)), .val (.int (0 : Int32))] [])) _
    refine XS.aloadN X2.here hx rfl (hb hby at_154) rfl rfl ?_
    show Steps p.tables e below (T2.setTop (mkF m 155 #[.val (.int p0), .val (.int (7 : Int32)), .val (.ref a_INT), .val (.int (0 : Int32)), .val (.int (0 : Int32))] [(.ref a_INT)])) _
    refine st3.trans ?_
    show Steps p.tables e below (T3.setTop (mkF m 158 #[.val (.int p0), .val (.int (7 : Int32)), .val (.ref a_INT), .val (.int (0 : Int32)), .val (.int (0 : Int32))] [(.int (0 : Int32))])) _
    refine XS.ifYes X3.here hx rfl (pc0 := 158) (pc' := 166) rfl (hb hby at_158) rfl (by decide) (by decide) (by decide) ?_
    show Steps p.tables e below (T3.setTop (mkF m 166 #[.val (.int p0), .val (.int (7 : Int32)), .val (.ref a_INT), .val (.int (0 : Int32)), .val (.int (0 : Int32))] [])) _
    refine XS.iconst X3.here hx rfl (hb hby at_166) ?_
    show Steps p.tables e below (T3.setTop (mkF m 167 #[.val (.int p0), .val (.int (7 : Int32)), .val (.ref a_INT), .val (.int (0 : Int32)), .val (.int (0 : Int32))] [(.int (1 : Int32))])) _
    refine XS.goto X3.here hx rfl (pc0 := 167) (pc' := 171) rfl (hb hby at_167) (by decide) (by decide) ?_
    show Steps p.tables e below (T3.setTop (mkF m 171 #[.val (.int p0), .val (.int (7 : Int32)), .val (.ref a_INT), .val (.int (0 : Int32)), .val (.int (0 : Int32))] [(.int (1 : Int32))])) _
    exact retN X3 hx (t := .boolean) Bd.returns (by simp) (hb hby at_171) hr
  · exact ⟨rfl, N3⟩
set_option maxRecDepth 65536 in
set_option maxHeartbeats 40000000 in
theorem rm2_8 (l : Launch) (Z : State) (a0 : Array Value) (hw : ∀ d ∈ tables_1, d.before a0 Z = true) (ws : List Jvm.Cond) (p0 : Int32) (a_ONE a_SET a_OPTIONAL a_ARRAY a_INT a_LIST a_BOOLEAN a_NOTHING a_STREAM a_LONG : Addr) (h0 : Heap) (n0 : Nat) (Z0 : n0 ≤ h0.size) (FF : Facts Z h0 a_ONE a_SET a_OPTIONAL a_ARRAY a_INT a_LIST a_BOOLEAN a_NOTHING a_STREAM a_LONG) :
    MetFree l (⟨"java/lang/Enum", "ordinal", "()I"⟩ : MethodName) (head1 (Jvm.Cond.code (⟨"java/lang/Enum", "ordinal", "()I"⟩ : MethodName) jdk_37_method_2_code 1 (some .int) :: ws) ({ frames := 0, cells := 0, slots := 0, locals := 0 } : Room)) (fun a U => a = #[(.ref a_BOOLEAN)] ∧ Z.Warmed39 U.vm ∧ U.heap = h0) (fun _ _ _ _ _ => True) (fun _ U o U' => ∃ v L, o = .returned v ∧ own_Q (.int (8 : Int32)) h0 n0 v U'.heap L ∧ FrameEnd U o U' L ({ frames := 0, cells := 0, slots := 0, locals := 0 } : Room).cells ({ frames := 0, cells := 0, slots := 0, locals := 0 } : Room).slots) := by
  refine MetFree.of_bodySF (plainFor_of_name pn_2) hisR ?_
  intro p e s m args below meth c s₁ Bd hml0 hP hK
  obtain ⟨rfl, hZ, hh⟩ := hP
  have hx := Bd.exec
  have hby := Bd.bytes
  have hml : c.maxLocals = 1 := hml0
  have hown : s.vm.findClass "java/lang/Enum" = some m.cls := findClass_of_methodNamed Bd.named
  have X0 : Stand p l e ({ frames := 0, cells := 0, slots := 0, locals := 0 } : Room) s m #[(.ref a_BOOLEAN)] below meth c s₁ [] 0 0 := Stand.of_body Bd
  have e0 : s₁.heap = h0 := by rw [← hh, Bd.state]; rfl
  have N0 := Fr.nil n0
  have pre0 : ∀ t, Steps p.tables e below (s₁.setTop (mkF m 0 #[.val (.ref a_BOOLEAN)] [])) t → Steps p.tables e below (s₁.setTop (entryFrame m #[(.ref a_BOOLEAN)] 1)) t := fun t k => castTop (ef_2 m a_BOOLEAN) k
  obtain ⟨T1, X1, e1, st1⟩ := getF X0 hx hZ hown (host := "") (Or.inl (hw _ (List.mem_of_getElem? (i := 16) rfl))) Via.refl e0 (fx_F_BOOLEAN_ordinal FF) (g := (mkF m 1 #[.val (.ref a_BOOLEAN)] [(.ref a_BOOLEAN)])) rfl rfl (hb hby d2_1)
  obtain ⟨fs, hr, hrun, hended, hW, hsame⟩ := X1.leave (v := some (.int (8 : Int32))) (fun h => by rw [Bd.returns] at h; cases h)
  refine ⟨_, _, pre0 _ ?_, hrun, hended, _, _, rfl, ?_, ⟨_, rfl⟩, hW, hsame.mono (by decide) (by decide)⟩
  · show Steps p.tables e below (s₁.setTop (mkF m 0 #[.val (.ref a_BOOLEAN)] [])) _
    refine XS.aloadN X0.here hx rfl (hb hby d2_0) rfl rfl ?_
    show Steps p.tables e below (s₁.setTop (mkF m 1 #[.val (.ref a_BOOLEAN)] [(.ref a_BOOLEAN)])) _
    refine st1 _ ?_
    show Steps p.tables e below (T1.setTop (mkF m 4 #[.val (.ref a_BOOLEAN)] [(.int (8 : Int32))])) _
    exact retI X1 hx Bd.returns (hb hby d2_4) hr
  · show own_Q _ _ _ _ T1.heap _
    exact ⟨rfl, N0, e1⟩
set_option maxRecDepth 65536 in
set_option maxHeartbeats 40000000 in
theorem rm1_8 (l : Launch) (Z : State) (a0 : Array Value) (hw : ∀ d ∈ tables_1, d.before a0 Z = true) (ws : List Jvm.Cond) (p0 : Int32) (a_ONE a_SET a_OPTIONAL a_ARRAY a_INT a_LIST a_BOOLEAN a_NOTHING a_STREAM a_LONG : Addr) (h0 : Heap) (n0 : Nat) (Z0 : n0 ≤ h0.size) (FF : Facts Z h0 a_ONE a_SET a_OPTIONAL a_ARRAY a_INT a_LIST a_BOOLEAN a_NOTHING a_STREAM a_LONG) :
    MetFree l (⟨"com/example/querywright/querywright/derived/ResultShape", "holdsRows", "()Z"⟩ : MethodName) (head1 (Jvm.Cond.code (⟨"com/example/querywright/querywright/derived/ResultShape", "holdsRows", "()Z"⟩ : MethodName) prog_24_method_6_code 1 (some .boolean) :: ws) ({ frames := 1, cells := 0, slots := 0, locals := 12 } : Room)) (fun a U => a = #[(.ref a_BOOLEAN)] ∧ Z.Warmed39 U.vm ∧ U.heap = h0) (fun _ _ _ _ _ => True) (fun _ U o U' => ∃ v L, o = .returned v ∧ own_Q (.int (0 : Int32)) h0 n0 v U'.heap L ∧ FrameEnd U o U' L ({ frames := 1, cells := 0, slots := 0, locals := 12 } : Room).cells ({ frames := 1, cells := 0, slots := 0, locals := 12 } : Room).slots) := by
  refine MetFree.of_bodySF (plainFor_of_name pn_1) hisR ?_
  intro p e s m args below meth c s₁ Bd hml0 hP hK
  obtain ⟨rfl, hZ, hh⟩ := hP
  have hx := Bd.exec
  have hby := Bd.bytes
  have hml : c.maxLocals = 1 := hml0
  have hown : s.vm.findClass "com/example/querywright/querywright/derived/ResultShape" = some m.cls := findClass_of_methodNamed Bd.named
  have X0 : Stand p l e ({ frames := 1, cells := 0, slots := 0, locals := 12 } : Room) s m #[(.ref a_BOOLEAN)] below meth c s₁ [] 0 0 := Stand.of_body Bd
  have e0 : s₁.heap = h0 := by rw [← hh, Bd.state]; rfl
  have N0 := Fr.nil n0
  have pre0 : ∀ t, Steps p.tables e below (s₁.setTop (mkF m 0 #[.val (.ref a_BOOLEAN)] [])) t → Steps p.tables e below (s₁.setTop (entryFrame m #[(.ref a_BOOLEAN)] 1)) t := fun t k => castTop (ef_1 m a_BOOLEAN) k
  obtain ⟨cq1, kq1, q1a, q1b, q1c⟩ := isOf hZ e0 (fx_E_BOOLEAN FF)
  obtain ⟨_, _, ⟨T1, L1, k1, n1⟩, -, X1, ⟨Lc1, hQ1, l1, y1, z1⟩, st1⟩ := X0.virtualBackUp hx (owner := "java/lang/Enum") (x := (⟨"com/example/querywright/querywright/derived/ResultShape", "ordinal", "()I"⟩ : MethodName)) (y := (⟨"java/lang/Enum", "ordinal", "()I"⟩ : MethodName)) hown (mvT hZ (hw _ (List.mem_of_getElem? (i := 9) rfl))) (mvT hZ (hw _ (List.mem_of_getElem? (i := 10) rfl))) (mvT hZ (hw _ (List.mem_of_getElem? (i := 11) rfl))) (by decide) (mvT hZ (hw _ (List.mem_of_getElem? (i := 13) rfl))) (mvT hZ (hw _ (List.mem_of_getElem? (i := 12) rfl))) (backOf (W := 0) (rm2_8 l Z a0 hw [] p0 a_ONE a_SET a_OPTIONAL a_ARRAY a_INT a_LIST a_BOOLEAN a_NOTHING a_STREAM a_LONG h0 n0 (Nat.le_trans Z0 (Nat.le_refl _)) FF) hZ (hw _ (List.mem_of_getElem? (i := 15) rfl)) (hw _ (List.mem_of_getElem? (i := 14) rfl)) (by decide) (by decide)) q1a q1c (g := (mkF m 1 #[.val (.ref a_BOOLEAN)] [(.ref a_BOOLEAN)])) rfl (by rw [hml]; rfl) (Steps.refl _) (argsL := []) (rest := []) (lenOf pd_0 rfl) rfl (by show 2 * 0 + _ ≤ _; exact Nat.le_of_eq rfl) (hb hby d1_1) (fun _ _ => ⟨rfl, e0, (by decide : 0 + 0 ≤ _), (by decide : 0 + 0 ≤ _)⟩)
  dsimp only [Pt.U, Pt.locs, Pt.cells, Pt.slots] at X1 l1 y1 z1 st1 hQ1
  subst l1 y1 z1
  obtain ⟨rfl, N1q, e1⟩ := hQ1
  have N1 := Fr.app N0 N1q
  obtain ⟨fs, hr, hrun, hended, hW, hsame⟩ := X1.leave (v := some (.int (0 : Int32))) (fun h => by rw [Bd.returns] at h; cases h)
  refine ⟨_, _, pre0 _ ?_, hrun, hended, _, _, rfl, ?_, ⟨_, rfl⟩, hW, hsame.mono (by decide) (by decide)⟩
  · show Steps p.tables e below (s₁.setTop (mkF m 0 #[.val (.ref a_BOOLEAN)] [])) _
    refine XS.aloadN X0.here hx rfl (hb hby d1_0) rfl rfl ?_
    show Steps p.tables e below (s₁.setTop (mkF m 1 #[.val (.ref a_BOOLEAN)] [(.ref a_BOOLEAN)])) _
    refine st1.trans ?_
    show Steps p.tables e below (T1.setTop (mkF m 4 #[.val (.ref a_BOOLEAN)] [(.int (8 : Int32))])) _
    refine XS.tswIn X1.here hx rfl (o := 70) (pc0 := 4) (pc' := 74) rfl (hb hby d1_4) rfl (by decide) rfl (by decide) (by decide) ?_
    show Steps p.tables e below (T1.setTop (mkF m 74 #[.val (.ref a_BOOLEAN)] [])) _
    refine XS.iconst X1.here hx rfl (hb hby d1_74) ?_
    show Steps p.tables e below (T1.setTop (mkF m 75 #[.val (.ref a_BOOLEAN)] [(.int (0 : Int32))])) _
    exact retN X1 hx (t := .boolean) Bd.returns (by simp) (hb hby d1_75) hr
  · show own_Q _ _ _ _ T1.heap _
    exact ⟨rfl, N1, e1⟩
set_option maxRecDepth 65536 in
set_option maxHeartbeats 40000000 in
theorem rm3_8 (l : Launch) (Z : State) (a0 : Array Value) (hw : ∀ d ∈ tables_1, d.before a0 Z = true) (ws : List Jvm.Cond) (p0 : Int32) (a_ONE a_SET a_OPTIONAL a_ARRAY a_INT a_LIST a_BOOLEAN a_NOTHING a_STREAM a_LONG : Addr) (h0 : Heap) (n0 : Nat) (Z0 : n0 ≤ h0.size) (FF : Facts Z h0 a_ONE a_SET a_OPTIONAL a_ARRAY a_INT a_LIST a_BOOLEAN a_NOTHING a_STREAM a_LONG) :
    MetFree l (⟨"com/example/querywright/querywright/derived/ResultShape", "isSingle", "()Z"⟩ : MethodName) (head1 (Jvm.Cond.code (⟨"com/example/querywright/querywright/derived/ResultShape", "isSingle", "()Z"⟩ : MethodName) prog_24_method_7_code 1 (some .boolean) :: ws) ({ frames := 0, cells := 0, slots := 0, locals := 0 } : Room)) (fun a U => a = #[(.ref a_BOOLEAN)] ∧ Z.Warmed39 U.vm ∧ U.heap = h0) (fun _ _ _ _ _ => True) (fun _ U o U' => ∃ v L, o = .returned v ∧ own_Q (.int (0 : Int32)) h0 n0 v U'.heap L ∧ FrameEnd U o U' L ({ frames := 0, cells := 0, slots := 0, locals := 0 } : Room).cells ({ frames := 0, cells := 0, slots := 0, locals := 0 } : Room).slots) := by
  refine MetFree.of_bodySF (plainFor_of_name pn_3) hisR ?_
  intro p e s m args below meth c s₁ Bd hml0 hP hK
  obtain ⟨rfl, hZ, hh⟩ := hP
  have hx := Bd.exec
  have hby := Bd.bytes
  have hml : c.maxLocals = 1 := hml0
  have hown : s.vm.findClass "com/example/querywright/querywright/derived/ResultShape" = some m.cls := findClass_of_methodNamed Bd.named
  have X0 : Stand p l e ({ frames := 0, cells := 0, slots := 0, locals := 0 } : Room) s m #[(.ref a_BOOLEAN)] below meth c s₁ [] 0 0 := Stand.of_body Bd
  have e0 : s₁.heap = h0 := by rw [← hh, Bd.state]; rfl
  have N0 := Fr.nil n0
  have pre0 : ∀ t, Steps p.tables e below (s₁.setTop (mkF m 0 #[.val (.ref a_BOOLEAN)] [])) t → Steps p.tables e below (s₁.setTop (entryFrame m #[(.ref a_BOOLEAN)] 1)) t := fun t k => castTop (ef_3 m a_BOOLEAN) k
  obtain ⟨T1, X1, e1, st1⟩ := getS2 X0 hx hZ hown (host := "") (Or.inl (hw _ (List.mem_of_getElem? (i := 23) rfl))) Via.refl e0 (fx_S_ONE FF) (g := (mkF m 1 #[.val (.ref a_BOOLEAN)] [(.ref a_BOOLEAN)])) rfl (hb hby d3_1)
  obtain ⟨T2, X2, e2, st2⟩ := getS2 X1 hx hZ hown (host := "") (Or.inl (hw _ (List.mem_of_getElem? (i := 26) rfl))) Via.refl e1 (fx_S_OPTIONAL FF) (g := (mkF m 8 #[.val (.ref a_BOOLEAN)] [(.ref a_BOOLEAN)])) rfl (hb hby d3_8)
  obtain ⟨fs, hr, hrun, hended, hW, hsame⟩ := X2.leave (v := some (.int (0 : Int32))) (fun h => by rw [Bd.returns] at h; cases h)
  refine ⟨_, _, pre0 _ ?_, hrun, hended, _, _, rfl, ?_, ⟨_, rfl⟩, hW, hsame.mono (by decide) (by decide)⟩
  · show Steps p.tables e below (s₁.setTop (mkF m 0 #[.val (.ref a_BOOLEAN)] [])) _
    refine XS.aloadN X0.here hx rfl (hb hby d3_0) rfl rfl ?_
    show Steps p.tables e below (s₁.setTop (mkF m 1 #[.val (.ref a_BOOLEAN)] [(.ref a_BOOLEAN)])) _
    refine st1 _ ?_
    show Steps p.tables e below (T1.setTop (mkF m 4 #[.val (.ref a_BOOLEAN)] [(.ref a_ONE), (.ref a_BOOLEAN)])) _
    refine Jvm.RoadKit.acmp (g := (mkF m 4 #[.val (.ref a_BOOLEAN)] [(.ref a_ONE), (.ref a_BOOLEAN)])) X1 hx rfl rfl rfl (pc0 := 4) (pc' := 7) (same := false) rfl (hb hby d3_4) rfl (decide_eq_false fun q => Fld.ne (fx_F_BOOLEAN_ordinal FF) (fx_F_ONE_ordinal FF) (by decide) (Value.ref.inj q)) (by decide) (by decide) ?_
    show Steps p.tables e below (T1.setTop (mkF m 7 #[.val (.ref a_BOOLEAN)] [])) _
    refine XS.aloadN X1.here hx rfl (hb hby d3_7) rfl rfl ?_
    show Steps p.tables e below (T1.setTop (mkF m 8 #[.val (.ref a_BOOLEAN)] [(.ref a_BOOLEAN)])) _
    refine st2 _ ?_
    show Steps p.tables e below (T2.setTop (mkF m 11 #[.val (.ref a_BOOLEAN)] [(.ref a_OPTIONAL), (.ref a_BOOLEAN)])) _
    refine Jvm.RoadKit.acmp (g := (mkF m 11 #[.val (.ref a_BOOLEAN)] [(.ref a_OPTIONAL), (.ref a_BOOLEAN)])) X2 hx rfl rfl rfl (pc0 := 11) (pc' := 18) (same := false) rfl (hb hby d3_11) rfl (decide_eq_false fun q => Fld.ne (fx_F_BOOLEAN_ordinal FF) (fx_F_OPTIONAL_ordinal FF) (by decide) (Value.ref.inj q)) (by decide) (by decide) ?_
    show Steps p.tables e below (T2.setTop (mkF m 18 #[.val (.ref a_BOOLEAN)] [])) _
    refine XS.iconst X2.here hx rfl (hb hby d3_18) ?_
    show Steps p.tables e below (T2.setTop (mkF m 19 #[.val (.ref a_BOOLEAN)] [(.int (0 : Int32))])) _
    exact retN X2 hx (t := .boolean) Bd.returns (by simp) (hb hby d3_19) hr
  · show own_Q _ _ _ _ T2.heap _
    exact ⟨rfl, N0, e2⟩
set_option maxRecDepth 65536 in
set_option maxHeartbeats 40000000 in
theorem rm0_8 (l : Launch) (Z : State) (a0 : Array Value) (hw : ∀ d ∈ tables_1, d.before a0 Z = true) (ws : List Jvm.Cond) (p0 : Int32) (a_ONE a_SET a_OPTIONAL a_ARRAY a_INT a_LIST a_BOOLEAN a_NOTHING a_STREAM a_LONG : Addr) (h0 : Heap) (n0 : Nat) (Z0 : n0 ≤ h0.size) (FF : Facts Z h0 a_ONE a_SET a_OPTIONAL a_ARRAY a_INT a_LIST a_BOOLEAN a_NOTHING a_STREAM a_LONG) (hk0 : ((p0 &&& (2147483647 : Int32)) % (10 : Int32)) = (8 : Int32)) :
    MetFree l x (head1 (Jvm.Cond.code x code maxLocals ret :: ws) room_1) (fun a U => a = #[(.int p0)] ∧ Z.Warmed39 U.vm ∧ U.heap = h0) (fun _ _ _ _ _ => True) (fun _ U o U' => ∃ v L, o = .returned v ∧ (v = some (.int (1 : Int32)) ∧ Fr n0 L) ∧ FrameEnd U o U' L room_1.cells room_1.slots) := by
  refine MetFree.of_bodySF (plainFor_of_name pn_0) hisR ?_
  intro p e s m args below meth c s₁ Bd hml0 hP hK
  obtain ⟨rfl, hZ, hh⟩ := hP
  have hx := Bd.exec
  have hby := Bd.bytes
  have hml : c.maxLocals = 5 := hml0
  have hown : s.vm.findClass "com/example/querywright/querywright/derived/ResultShapeHoldsRowsPinLaw" = some m.cls := findClass_of_methodNamed Bd.named
  have X0 : Stand p l e room_1 s m #[(.int p0)] below meth c s₁ [] 0 0 := Stand.of_body Bd
  have e0 : s₁.heap = h0 := by rw [← hh, Bd.state]; rfl
  have N0 := Fr.nil n0
  have pre0 : ∀ t, Steps p.tables e below (s₁.setTop (mkF m 0 #[.val (.int p0), .unset, .unset, .unset, .unset] [])) t → Steps p.tables e below (s₁.setTop (entryFrame m #[(.int p0)] maxLocals)) t := fun t k => castTop (ef_0 m p0) k
  obtain ⟨T1, X1, e1, st1⟩ := getS2 X0 hx hZ hown (host := "") (Or.inl (hw _ (List.mem_of_getElem? (i := 35) rfl))) Via.refl e0 (fx_S_BOOLEAN FF) (g := (mkF m 127 #[.val (.int p0), .val (.int (8 : Int32)), .unset, .unset, .unset] [])) rfl (hb hby at_127)
  obtain ⟨cq2, kq2, q2a, q2b, q2c⟩ := isOf hZ e1 (fx_E_BOOLEAN FF)
  obtain ⟨_, _, ⟨T2, L2, k2, n2⟩, -, X2, ⟨Lc2, hQ2, l2, y2, z2⟩, st2⟩ := X1.virtualBack hx (y := (⟨"com/example/querywright/querywright/derived/ResultShape", "holdsRows", "()Z"⟩ : MethodName)) (z := (⟨"com/example/querywright/querywright/derived/ResultShape", "holdsRows", "()Z"⟩ : MethodName)) hown (mvT hZ (hw _ (List.mem_of_getElem? (i := 4) rfl))) (mvT hZ (hw _ (List.mem_of_getElem? (i := 5) rfl))) (notFace_of_selects (args := #[]) (mvT hZ (hw _ (List.mem_of_getElem? (i := 7) rfl)))) (mvT hZ (hw _ (List.mem_of_getElem? (i := 7) rfl))) (mvT hZ (hw _ (List.mem_of_getElem? (i := 6) rfl))) (by decide) (backOf (W := 0) (rm1_8 l Z a0 hw [] p0 a_ONE a_SET a_OPTIONAL a_ARRAY a_INT a_LIST a_BOOLEAN a_NOTHING a_STREAM a_LONG h0 n0 (Nat.le_trans Z0 (Nat.le_refl _)) FF) hZ (hw _ (List.mem_of_getElem? (i := 8) rfl)) (hw _ (List.mem_of_getElem? (i := 2) rfl)) (by decide) (by decide)) q2a q2c (g := (mkF m 143 #[.val (.int p0), .val (.int (8 : Int32)), .val (.ref a_BOOLEAN), .val (.int (0 : Int32)), .unset] [(.ref a_BOOLEAN)])) rfl (by rw [hml]; rfl) (Steps.refl _) (argsL := []) (rest := []) (lenOf pd_1 rfl) rfl (by show 2 * 0 + _ ≤ _; exact Nat.le_of_eq rfl) (hb hby at_143) (fun _ _ => ⟨rfl, e1, (by decide : 0 + 0 ≤ _), (by decide : 0 + 0 ≤ _)⟩)
  dsimp only [Pt.U, Pt.locs, Pt.cells, Pt.slots] at X2 l2 y2 z2 st2 hQ2
  subst l2 y2 z2
  obtain ⟨rfl, N2q, e2⟩ := hQ2
  have N2 := Fr.app N0 N2q
  obtain ⟨cq3, kq3, q3a, q3b, q3c⟩ := isOf hZ e2 (fx_E_BOOLEAN FF)
  obtain ⟨_, _, ⟨T3, L3, k3, n3⟩, -, X3, ⟨Lc3, hQ3, l3, y3, z3⟩, st3⟩ := X2.virtualBack hx (y := (⟨"com/example/querywright/querywright/derived/ResultShape", "isSingle", "()Z"⟩ : MethodName)) (z := (⟨"com/example/querywright/querywright/derived/ResultShape", "isSingle", "()Z"⟩ : MethodName)) hown (mvT hZ (hw _ (List.mem_of_getElem? (i := 18) rfl))) (mvT hZ (hw _ (List.mem_of_getElem? (i := 19) rfl))) (notFace_of_selects (args := #[]) (mvT hZ (hw _ (List.mem_of_getElem? (i := 21) rfl)))) (mvT hZ (hw _ (List.mem_of_getElem? (i := 21) rfl))) (mvT hZ (hw _ (List.mem_of_getElem? (i := 20) rfl))) (by decide) (backOf (W := 0) (rm3_8 l Z a0 hw [] p0 a_ONE a_SET a_OPTIONAL a_ARRAY a_INT a_LIST a_BOOLEAN a_NOTHING a_STREAM a_LONG h0 n0 (Nat.le_trans Z0 (Nat.le_refl _)) FF) hZ (hw _ (List.mem_of_getElem? (i := 22) rfl)) (hw _ (List.mem_of_getElem? (i := 2) rfl)) (by decide) (by decide)) q3a q3c (g := (mkF m 155 #[.val (.int p0), .val (.int (8 : Int32)), .val (.ref a_BOOLEAN), .val (.int (0 : Int32)), .val (.int (0 : Int32))] [(.ref a_BOOLEAN)])) rfl (by rw [hml]; rfl) (Steps.refl _) (argsL := []) (rest := []) (lenOf pd_1 rfl) rfl (by show 2 * 0 + _ ≤ _; exact Nat.le_of_eq rfl) (hb hby at_155) (fun _ _ => ⟨rfl, e2, (by decide : 0 + 0 ≤ _), (by decide : 0 + 0 ≤ _)⟩)
  dsimp only [Pt.U, Pt.locs, Pt.cells, Pt.slots] at X3 l3 y3 z3 st3 hQ3
  subst l3 y3 z3
  obtain ⟨rfl, N3q, e3⟩ := hQ3
  have N3 := Fr.app N2 N3q
  obtain ⟨fs, hr, hrun, hended, hW, hsame⟩ := X3.leave (v := some (.int (1 : Int32))) (fun h => by rw [Bd.returns] at h; cases h)
  refine ⟨_, _, pre0 _ ?_, hrun, hended, _, _, rfl, ?_, ⟨_, rfl⟩, hW, hsame.mono (by decide) (by decide)⟩
  · show Steps p.tables e below (s₁.setTop (mkF m 0 #[.val (.int p0), .unset, .unset, .unset, .unset] [])) _
    refine XS.iloadN X0.here hx rfl (hb hby at_0) rfl ?_
    show Steps p.tables e below (s₁.setTop (mkF m 1 #[.val (.int p0), .unset, .unset, .unset, .unset] [(.int p0)])) _
    refine X0.ldcInt hx hown (mvT hZ (hw _ (List.mem_of_getElem? (i := 0) rfl))) (g := (mkF m 1 #[.val (.int p0), .unset, .unset, .unset, .unset] [(.int p0)])) rfl (hb hby at_1) _ ?_
    show Steps p.tables e below (s₁.setTop (mkF m 3 #[.val (.int p0), .unset, .unset, .unset, .unset] [(.int (2147483647 : Int32)), (.int p0)])) _
    refine XS.iand X0.here hx rfl (hb hby at_3) rfl ?_
    show Steps p.tables e below (s₁.setTop (mkF m 4 #[.val (.int p0), .unset, .unset, .unset, .unset] [(.int (p0 &&& (2147483647 : Int32)))])) _
    refine XS.bipush X0.here hx rfl (hb hby at_4) ?_
    show Steps p.tables e below (s₁.setTop (mkF m 6 #[.val (.int p0), .unset, .unset, .unset, .unset] [(.int (10 : Int32)), (.int (p0 &&& (2147483647 : Int32)))])) _
    refine iremM X0 hx rfl (hb hby at_6) rfl (by decide) ?_
    show Steps p.tables e below (s₁.setTop (mkF m 7 #[.val (.int p0), .unset, .unset, .unset, .unset] [(.int ((p0 &&& (2147483647 : Int32)) % (10 : Int32)))])) _
    rw [hk0]
    show Steps p.tables e below (s₁.setTop (mkF m 7 #[.val (.int p0), .unset, .unset, .unset, .unset] [(.int (8 : Int32))])) _
    refine XS.istoreN X0.here hx rfl (hb hby at_7) rfl (l' := #[.val (.int p0), .val (.int (8 : Int32)), .unset, .unset, .unset]) rfl ?_
    show Steps p.tables e below (s₁.setTop (mkF m 8 #[.val (.int p0), .val (.int (8 : Int32)), .unset, .unset, .unset] [])) _
    refine XS.iloadN X0.here hx rfl (hb hby at_8) rfl ?_
    show Steps p.tables e below (s₁.setTop (mkF m 9 #[.val (.int p0), .val (.int (8 : Int32)), .unset, .unset, .unset] [(.int (8 : Int32))])) _
    refine XS.ifYes X0.here hx rfl (pc0 := 9) (pc' := 21) rfl (hb hby at_9) rfl (by decide) (by decide) (by decide) ?_
    show Steps p.tables e below (s₁.setTop (mkF m 21 #[.val (.int p0), .val (.int (8 : Int32)), .unset, .unset, .unset] [])) _
    refine XS.iloadN X0.here hx rfl (hb hby at_21) rfl ?_
    show Steps p.tables e below (s₁.setTop (mkF m 22 #[.val (.int p0), .val (.int (8 : Int32)), .unset, .unset, .unset] [(.int (8 : Int32))])) _
    refine XS.iconst X0.here hx rfl (hb hby at_22) ?_
    show Steps p.tables e below (s₁.setTop (mkF m 23 #[.val (.int p0), .val (.int (8 : Int32)), .unset, .unset, .unset] [(.int (1 : Int32)), (.int (8 : Int32))])) _
    refine XS.icmpYes X0.here hx rfl (pc0 := 23) (pc' := 35) rfl (hb hby at_23) rfl (by decide) (by decide) (by decide) ?_
    show Steps p.tables e below (s₁.setTop (mkF m 35 #[.val (.int p0), .val (.int (8 : Int32)), .unset, .unset, .unset] [])) _
    refine XS.iloadN X0.here hx rfl (hb hby at_35) rfl ?_
    show Steps p.tables e below (s₁.setTop (mkF m 36 #[.val (.int p0), .val (.int (8 : Int32)), .unset, .unset, .unset] [(.int (8 : Int32))])) _
    refine XS.iconst X0.here hx rfl (hb hby at_36) ?_
    show Steps p.tables e below (s₁.setTop (mkF m 37 #[.val (.int p0), .val (.int (8 : Int32)), .unset, .unset, .unset] [(.int (2 : Int32)), (.int (8 : Int32))])) _
    refine XS.icmpYes X0.here hx rfl (pc0 := 37) (pc' := 49) rfl (hb hby at_37) rfl (by decide) (by decide) (by decide) ?_
    show Steps p.tables e below (s₁.setTop (mkF m 49 #[.val (.int p0), .val (.int (8 : Int32)), .unset, .unset, .unset] [])) _
    refine XS.iloadN X0.here hx rfl (hb hby at_49) rfl ?_
    show Steps p.tables e below (s₁.setTop (mkF m 50 #[.val (.int p0), .val (.int (8 : Int32)), .unset, .unset, .unset] [(.int (8 : Int32))])) _
    refine XS.iconst X0.here hx rfl (hb hby at_50) ?_
    show Steps p.tables e below (s₁.setTop (mkF m 51 #[.val (.int p0), .val (.int (8 : Int32)), .unset, .unset, .unset] [(.int (3 : Int32)), (.int (8 : Int32))])) _
    refine XS.icmpYes X0.here hx rfl (pc0 := 51) (pc' := 63) rfl (hb hby at_51) rfl (by decide) (by decide) (by decide) ?_
    show Steps p.tables e below (s₁.setTop (mkF m 63 #[.val (.int p0), .val (.int (8 : Int32)), .unset, .unset, .unset] [])) _
    refine XS.iloadN X0.here hx rfl (hb hby at_63) rfl ?_
    show Steps p.tables e below (s₁.setTop (mkF m 64 #[.val (.int p0), .val (.int (8 : Int32)), .unset, .unset, .unset] [(.int (8 : Int32))])) _
    refine XS.iconst X0.here hx rfl (hb hby at_64) ?_
    show Steps p.tables e below (s₁.setTop (mkF m 65 #[.val (.int p0), .val (.int (8 : Int32)), .unset, .unset, .unset] [(.int (4 : Int32)), (.int (8 : Int32))])) _
    refine XS.icmpYes X0.here hx rfl (pc0 := 65) (pc' := 77) rfl (hb hby at_65) rfl (by decide) (by decide) (by decide) ?_
    show Steps p.tables e below (s₁.setTop (mkF m 77 #[.val (.int p0), .val (.int (8 : Int32)), .unset, .unset, .unset] [])) _
    refine XS.iloadN X0.here hx rfl (hb hby at_77) rfl ?_
    show Steps p.tables e below (s₁.setTop (mkF m 78 #[.val (.int p0), .val (.int (8 : Int32)), .unset, .unset, .unset] [(.int (8 : Int32))])) _
    refine XS.iconst X0.here hx rfl (hb hby at_78) ?_
    show Steps p.tables e below (s₁.setTop (mkF m 79 #[.val (.int p0), .val (.int (8 : Int32)), .unset, .unset, .unset] [(.int (5 : Int32)), (.int (8 : Int32))])) _
    refine XS.icmpYes X0.here hx rfl (pc0 := 79) (pc' := 91) rfl (hb hby at_79) rfl (by decide) (by decide) (by decide) ?_
    show Steps p.tables e below (s₁.setTop (mkF m 91 #[.val (.int p0), .val (.int (8 : Int32)), .unset, .unset, .unset] [])) _
    refine XS.iloadN X0.here hx rfl (hb hby at_91) rfl ?_
    show Steps p.tables e below (s₁.setTop (mkF m 92 #[.val (.int p0), .val (.int (8 : Int32)), .unset, .unset, .unset] [(.int (8 : Int32))])) _
    refine XS.bipush X0.here hx rfl (hb hby at_92) ?_
    show Steps p.tables e below (s₁.setTop (mkF m 94 #[.val (.int p0), .val (.int (8 : Int32)), .unset, .unset, .unset] [(.int (6 : Int32)), (.int (8 : Int32))])) _
    refine XS.icmpYes X0.here hx rfl (pc0 := 94) (pc' := 106) rfl (hb hby at_94) rfl (by decide) (by decide) (by decide) ?_
    show Steps p.tables e below (s₁.setTop (mkF m 106 #[.val (.int p0), .val (.int (8 : Int32)), .unset, .unset, .unset] [])) _
    refine XS.iloadN X0.here hx rfl (hb hby at_106) rfl ?_
    show Steps p.tables e below (s₁.setTop (mkF m 107 #[.val (.int p0), .val (.int (8 : Int32)), .unset, .unset, .unset] [(.int (8 : Int32))])) _
    refine XS.bipush X0.here hx rfl (hb hby at_107) ?_
    show Steps p.tables e below (s₁.setTop (mkF m 109 #[.val (.int p0), .val (.int (8 : Int32)), .unset, .unset, .unset] [(.int (7 : Int32)), (.int (8 : Int32))])) _
    refine XS.icmpYes X0.here hx rfl (pc0 := 109) (pc' := 121) rfl (hb hby at_109) rfl (by decide) (by decide) (by decide) ?_
    show Steps p.tables e below (s₁.setTop (mkF m 121 #[.val (.int p0), .val (.int (8 : Int32)), .unset, .unset, .unset] [])) _
    refine XS.iloadN X0.here hx rfl (hb hby at_121) rfl ?_
    show Steps p.tables e below (s₁.setTop (mkF m 122 #[.val (.int p0), .val (.int (8 : Int32)), .unset, .unset, .unset] [(.int (8 : Int32))])) _
    refine XS.bipush X0.here hx rfl (hb hby at_122) ?_
    show Steps p.tables e below (s₁.setTop (mkF m 124 #[.val (.int p0), .val (.int (8 : Int32)), .unset, .unset, .unset] [(.int (8 : Int32)), (.int (8 : Int32))])) _
    refine XS.icmpNo X0.here hx rfl (hb hby at_124) rfl (by decide) ?_
    show Steps p.tables e below (s₁.setTop (mkF m 127 #[.val (.int p0), .val (.int (8 : Int32)), .unset, .unset, .unset] [])) _
    refine st1 _ ?_
    show Steps p.tables e below (T1.setTop (mkF m 130 #[.val (.int p0), .val (.int (8 : Int32)), .unset, .unset, .unset] [(.ref a_BOOLEAN)])) _
    refine XS.astoreN X1.here hx rfl (hb hby at_130) rfl rfl (l' := #[.val (.int p0), .val (.int (8 : Int32)), .val (.ref a_BOOLEAN), .unset, .unset]) rfl ?_
    show Steps p.tables e below (T1.setTop (mkF m 131 #[.val (.int p0), .val (.int (8 : Int32)), .val (.ref a_BOOLEAN), .unset, .unset] [])) _
    refine XS.iconst X1.here hx rfl (hb hby at_131) ?_
    show Steps p.tables e below (T1.setTop (mkF m 132 #[.val (.int p0), .val (.int (8 : Int32)), .val (.ref a_BOOLEAN), .unset, .unset] [(.int (0 : Int32))])) _
    refine XS.istoreN X1.here hx rfl (hb hby at_132) rfl (l' := #[.val (.int p0), .val (.int (8 : Int32)), .val (.ref a_BOOLEAN), .val (.int (0 : Int32)), .unset]) rfl ?_
    show Steps p.tables e below (T1.setTop (mkF m 133 #[.val (.int p0), .val (.int (8 : Int32)), .val (.ref a_BOOLEAN), .val (.int (0 : Int32)), .unset] [])) _
    refine XS.goto X1.here hx rfl (pc0 := 133) (pc' := 142) rfl (hb hby at_133) (by decide) (by decide) ?_
    show Steps p.tables e below (T1.setTop (mkF m 142 #[.val (.int p0), .val (.int (8 : Int32)), .val (.ref a_BOOLEAN), .val (.int (0 : Int32)), .unset] [])) _
    refine XS.aloadN X1.here hx rfl (hb hby at_142) rfl rfl ?_
    show Steps p.tables e below (T1.setTop (mkF m 143 #[.val (.int p0), .val (.int (8 : Int32)), .val (.ref a_BOOLEAN), .val (.int (0 : Int32)), .unset] [(.ref a_BOOLEAN)])) _
    refine st2.trans ?_
    show Steps p.tables e below (T2.setTop (mkF m 146 #[.val (.int p0), .val (.int (8 : Int32)), .val (.ref a_BOOLEAN), .val (.int (0 : Int32)), .unset] [(.int (0 : Int32))])) _
    refine XS.istore X2.here hx rfl (hb hby at_146) rfl (l' := #[.val (.int p0), .val (.int (8 : Int32)), .val (.ref a_BOOLEAN), .val (.int (0 : Int32)), .val (.int (0 : Int32))]) rfl ?_
    show Steps p.tables e below (T2.setTop (mkF m 148 #[.val (.int p0), .val (.int (8 : Int32)), .val (.ref a_BOOLEAN), .val (.int (0 : Int32)), .val (.int (0 : Int32))] [])) _
    refine XS.iload X2.here hx rfl (hb hby at_148) rfl ?_
    show Steps p.tables e below (T2.setTop (mkF m 150 #[.val (.int p0), .val (.int (8 : Int32)), .val (.ref a_BOOLEAN), .val (.int (0 : Int32)), .val (.int (0 : Int32))] [(.int (0 : Int32))])) _
    refine XS.iloadN X2.here hx rfl (hb hby at_150) rfl ?_
    show Steps p.tables e below (T2.setTop (mkF m 151 #[.val (.int p0), .val (.int (8 : Int32)), .val (.ref a_BOOLEAN), .val (.int (0 : Int32)), .val (.int (0 : Int32))] [(.int (0 : Int32)), (.int (0 : Int32))])) _
    refine XS.icmpNo X2.here hx rfl (hb hby at_151) rfl (by decide) ?_
    show Steps p.tables e below (T2.setTop (mkF m 154 #[.val (.int p0), .val (.int (8 : Int32)), .val (.ref a_BOOLEAN), .val (.int (0 : Int32)), .val (.int (0 : Int32))] [])) _
    refine XS.aloadN X2.here hx rfl (hb hby at_154) rfl rfl ?_
    show Steps p.tables e below (T2.setTop (mkF m 155 #[.val (.int p0), .val (.int (8 : Int32)), .val (.ref a_BOOLEAN), .val (.int (0 : Int32)), .val (.int (0 : Int32))] [(.ref a_BOOLEAN)])) _
    refine st3.trans ?_
    show Steps p.tables e below (T3.setTop (mkF m 158 #[.val (.int p0), .val (.int (8 : Int32)), .val (.ref a_BOOLEAN), .val (.int (0 : Int32)), .val (.int (0 : Int32))] [(.int (0 : Int32))])) _
    refine XS.ifYes X3.here hx rfl (pc0 := 158) (pc' := 166) rfl (hb hby at_158) rfl (by decide) (by decide) (by decide) ?_
    show Steps p.tables e below (T3.setTop (mkF m 166 #[.val (.int p0), .val (.int (8 : Int32)), .val (.ref a_BOOLEAN), .val (.int (0 : Int32)), .val (.int (0 : Int32))] [])) _
    refine XS.iconst X3.here hx rfl (hb hby at_166) ?_
    show Steps p.tables e below (T3.setTop (mkF m 167 #[.val (.int p0), .val (.int (8 : Int32)), .val (.ref a_BOOLEAN), .val (.int (0 : Int32)), .val (.int (0 : Int32))] [(.int (1 : Int32))])) _
    refine XS.goto X3.here hx rfl (pc0 := 167) (pc' := 171) rfl (hb hby at_167) (by decide) (by decide) ?_
    show Steps p.tables e below (T3.setTop (mkF m 171 #[.val (.int p0), .val (.int (8 : Int32)), .val (.ref a_BOOLEAN), .val (.int (0 : Int32)), .val (.int (0 : Int32))] [(.int (1 : Int32))])) _
    exact retN X3 hx (t := .boolean) Bd.returns (by simp) (hb hby at_171) hr
  · exact ⟨rfl, N3⟩
set_option maxRecDepth 65536 in
set_option maxHeartbeats 40000000 in
theorem rm2_9 (l : Launch) (Z : State) (a0 : Array Value) (hw : ∀ d ∈ tables_1, d.before a0 Z = true) (ws : List Jvm.Cond) (p0 : Int32) (a_ONE a_SET a_OPTIONAL a_ARRAY a_INT a_LIST a_BOOLEAN a_NOTHING a_STREAM a_LONG : Addr) (h0 : Heap) (n0 : Nat) (Z0 : n0 ≤ h0.size) (FF : Facts Z h0 a_ONE a_SET a_OPTIONAL a_ARRAY a_INT a_LIST a_BOOLEAN a_NOTHING a_STREAM a_LONG) :
    MetFree l (⟨"java/lang/Enum", "ordinal", "()I"⟩ : MethodName) (head1 (Jvm.Cond.code (⟨"java/lang/Enum", "ordinal", "()I"⟩ : MethodName) jdk_37_method_2_code 1 (some .int) :: ws) ({ frames := 0, cells := 0, slots := 0, locals := 0 } : Room)) (fun a U => a = #[(.ref a_NOTHING)] ∧ Z.Warmed39 U.vm ∧ U.heap = h0) (fun _ _ _ _ _ => True) (fun _ U o U' => ∃ v L, o = .returned v ∧ own_Q (.int (9 : Int32)) h0 n0 v U'.heap L ∧ FrameEnd U o U' L ({ frames := 0, cells := 0, slots := 0, locals := 0 } : Room).cells ({ frames := 0, cells := 0, slots := 0, locals := 0 } : Room).slots) := by
  refine MetFree.of_bodySF (plainFor_of_name pn_2) hisR ?_
  intro p e s m args below meth c s₁ Bd hml0 hP hK
  obtain ⟨rfl, hZ, hh⟩ := hP
  have hx := Bd.exec
  have hby := Bd.bytes
  have hml : c.maxLocals = 1 := hml0
  have hown : s.vm.findClass "java/lang/Enum" = some m.cls := findClass_of_methodNamed Bd.named
  have X0 : Stand p l e ({ frames := 0, cells := 0, slots := 0, locals := 0 } : Room) s m #[(.ref a_NOTHING)] below meth c s₁ [] 0 0 := Stand.of_body Bd
  have e0 : s₁.heap = h0 := by rw [← hh, Bd.state]; rfl
  have N0 := Fr.nil n0
  have pre0 : ∀ t, Steps p.tables e below (s₁.setTop (mkF m 0 #[.val (.ref a_NOTHING)] [])) t → Steps p.tables e below (s₁.setTop (entryFrame m #[(.ref a_NOTHING)] 1)) t := fun t k => castTop (ef_2 m a_NOTHING) k
  obtain ⟨T1, X1, e1, st1⟩ := getF X0 hx hZ hown (host := "") (Or.inl (hw _ (List.mem_of_getElem? (i := 16) rfl))) Via.refl e0 (fx_F_NOTHING_ordinal FF) (g := (mkF m 1 #[.val (.ref a_NOTHING)] [(.ref a_NOTHING)])) rfl rfl (hb hby d2_1)
  obtain ⟨fs, hr, hrun, hended, hW, hsame⟩ := X1.leave (v := some (.int (9 : Int32))) (fun h => by rw [Bd.returns] at h; cases h)
  refine ⟨_, _, pre0 _ ?_, hrun, hended, _, _, rfl, ?_, ⟨_, rfl⟩, hW, hsame.mono (by decide) (by decide)⟩
  · show Steps p.tables e below (s₁.setTop (mkF m 0 #[.val (.ref a_NOTHING)] [])) _
    refine XS.aloadN X0.here hx rfl (hb hby d2_0) rfl rfl ?_
    show Steps p.tables e below (s₁.setTop (mkF m 1 #[.val (.ref a_NOTHING)] [(.ref a_NOTHING)])) _
    refine st1 _ ?_
    show Steps p.tables e below (T1.setTop (mkF m 4 #[.val (.ref a_NOTHING)] [(.int (9 : Int32))])) _
    exact retI X1 hx Bd.returns (hb hby d2_4) hr
  · show own_Q _ _ _ _ T1.heap _
    exact ⟨rfl, N0, e1⟩
set_option maxRecDepth 65536 in
set_option maxHeartbeats 40000000 in
theorem rm1_9 (l : Launch) (Z : State) (a0 : Array Value) (hw : ∀ d ∈ tables_1, d.before a0 Z = true) (ws : List Jvm.Cond) (p0 : Int32) (a_ONE a_SET a_OPTIONAL a_ARRAY a_INT a_LIST a_BOOLEAN a_NOTHING a_STREAM a_LONG : Addr) (h0 : Heap) (n0 : Nat) (Z0 : n0 ≤ h0.size) (FF : Facts Z h0 a_ONE a_SET a_OPTIONAL a_ARRAY a_INT a_LIST a_BOOLEAN a_NOTHING a_STREAM a_LONG) :
    MetFree l (⟨"com/example/querywright/querywright/derived/ResultShape", "holdsRows", "()Z"⟩ : MethodName) (head1 (Jvm.Cond.code (⟨"com/example/querywright/querywright/derived/ResultShape", "holdsRows", "()Z"⟩ : MethodName) prog_24_method_6_code 1 (some .boolean) :: ws) ({ frames := 1, cells := 0, slots := 0, locals := 12 } : Room)) (fun a U => a = #[(.ref a_NOTHING)] ∧ Z.Warmed39 U.vm ∧ U.heap = h0) (fun _ _ _ _ _ => True) (fun _ U o U' => ∃ v L, o = .returned v ∧ own_Q (.int (0 : Int32)) h0 n0 v U'.heap L ∧ FrameEnd U o U' L ({ frames := 1, cells := 0, slots := 0, locals := 12 } : Room).cells ({ frames := 1, cells := 0, slots := 0, locals := 12 } : Room).slots) := by
  refine MetFree.of_bodySF (plainFor_of_name pn_1) hisR ?_
  intro p e s m args below meth c s₁ Bd hml0 hP hK
  obtain ⟨rfl, hZ, hh⟩ := hP
  have hx := Bd.exec
  have hby := Bd.bytes
  have hml : c.maxLocals = 1 := hml0
  have hown : s.vm.findClass "com/example/querywright/querywright/derived/ResultShape" = some m.cls := findClass_of_methodNamed Bd.named
  have X0 : Stand p l e ({ frames := 1, cells := 0, slots := 0, locals := 12 } : Room) s m #[(.ref a_NOTHING)] below meth c s₁ [] 0 0 := Stand.of_body Bd
  have e0 : s₁.heap = h0 := by rw [← hh, Bd.state]; rfl
  have N0 := Fr.nil n0
  have pre0 : ∀ t, Steps p.tables e below (s₁.setTop (mkF m 0 #[.val (.ref a_NOTHING)] [])) t → Steps p.tables e below (s₁.setTop (entryFrame m #[(.ref a_NOTHING)] 1)) t := fun t k => castTop (ef_1 m a_NOTHING) k
  obtain ⟨cq1, kq1, q1a, q1b, q1c⟩ := isOf hZ e0 (fx_E_NOTHING FF)
  obtain ⟨_, _, ⟨T1, L1, k1, n1⟩, -, X1, ⟨Lc1, hQ1, l1, y1, z1⟩, st1⟩ := X0.virtualBackUp hx (owner := "java/lang/Enum") (x := (⟨"com/example/querywright/querywright/derived/ResultShape", "ordinal", "()I"⟩ : MethodName)) (y := (⟨"java/lang/Enum", "ordinal", "()I"⟩ : MethodName)) hown (mvT hZ (hw _ (List.mem_of_getElem? (i := 9) rfl))) (mvT hZ (hw _ (List.mem_of_getElem? (i := 10) rfl))) (mvT hZ (hw _ (List.mem_of_getElem? (i := 11) rfl))) (by decide) (mvT hZ (hw _ (List.mem_of_getElem? (i := 13) rfl))) (mvT hZ (hw _ (List.mem_of_getElem? (i := 12) rfl))) (backOf (W := 0) (rm2_9 l Z a0 hw [] p0 a_ONE a_SET a_OPTIONAL a_ARRAY a_INT a_LIST a_BOOLEAN a_NOTHING a_STREAM a_LONG h0 n0 (Nat.le_trans Z0 (Nat.le_refl _)) FF) hZ (hw _ (List.mem_of_getElem? (i := 15) rfl)) (hw _ (List.mem_of_getElem? (i := 14) rfl)) (by decide) (by decide)) q1a q1c (g := (mkF m 1 #[.val (.ref a_NOTHING)] [(.ref a_NOTHING)])) rfl (by rw [hml]; rfl) (Steps.refl _) (argsL := []) (rest := []) (lenOf pd_0 rfl) rfl (by show 2 * 0 + _ ≤ _; exact Nat.le_of_eq rfl) (hb hby d1_1) (fun _ _ => ⟨rfl, e0, (by decide : 0 + 0 ≤ _), (by decide : 0 + 0 ≤ _)⟩)
  dsimp only [Pt.U, Pt.locs, Pt.cells, Pt.slots] at X1 l1 y1 z1 st1 hQ1
  subst l1 y1 z1
  obtain ⟨rfl, N1q, e1⟩ := hQ1
  have N1 := Fr.app N0 N1q
  obtain ⟨fs, hr, hrun, hended, hW, hsame⟩ := X1.leave (v := some (.int (0 : Int32))) (fun h => by rw [Bd.returns] at h; cases h)
  refine ⟨_, _, pre0 _ ?_, hrun, hended, _, _, rfl, ?_, ⟨_, rfl⟩, hW, hsame.mono (by decide) (by decide)⟩
  · show Steps p.tables e below (s₁.setTop (mkF m 0 #[.val (.ref a_NOTHING)] [])) _
    refine XS.aloadN X0.here hx rfl (hb hby d1_0) rfl rfl ?_
    show Steps p.tables e below (s₁.setTop (mkF m 1 #[.val (.ref a_NOTHING)] [(.ref a_NOTHING)])) _
    refine st1.trans ?_
    show Steps p.tables e below (T1.setTop (mkF m 4 #[.val (.ref a_NOTHING)] [(.int (9 : Int32))])) _
    refine XS.tswIn X1.here hx rfl (o := 70) (pc0 := 4) (pc' := 74) rfl (hb hby d1_4) rfl (by decide) rfl (by decide) (by decide) ?_
    show Steps p.tables e below (T1.setTop (mkF m 74 #[.val (.ref a_NOTHING)] [])) _
    refine XS.iconst X1.here hx rfl (hb hby d1_74) ?_
    show Steps p.tables e below (T1.setTop (mkF m 75 #[.val (.ref a_NOTHING)] [(.int (0 : Int32))])) _
    exact retN X1 hx (t := .boolean) Bd.returns (by simp) (hb hby d1_75) hr
  · show own_Q _ _ _ _ T1.heap _
    exact ⟨rfl, N1, e1⟩
set_option maxRecDepth 65536 in
set_option maxHeartbeats 40000000 in
theorem rm3_9 (l : Launch) (Z : State) (a0 : Array Value) (hw : ∀ d ∈ tables_1, d.before a0 Z = true) (ws : List Jvm.Cond) (p0 : Int32) (a_ONE a_SET a_OPTIONAL a_ARRAY a_INT a_LIST a_BOOLEAN a_NOTHING a_STREAM a_LONG : Addr) (h0 : Heap) (n0 : Nat) (Z0 : n0 ≤ h0.size) (FF : Facts Z h0 a_ONE a_SET a_OPTIONAL a_ARRAY a_INT a_LIST a_BOOLEAN a_NOTHING a_STREAM a_LONG) :
    MetFree l (⟨"com/example/querywright/querywright/derived/ResultShape", "isSingle", "()Z"⟩ : MethodName) (head1 (Jvm.Cond.code (⟨"com/example/querywright/querywright/derived/ResultShape", "isSingle", "()Z"⟩ : MethodName) prog_24_method_7_code 1 (some .boolean) :: ws) ({ frames := 0, cells := 0, slots := 0, locals := 0 } : Room)) (fun a U => a = #[(.ref a_NOTHING)] ∧ Z.Warmed39 U.vm ∧ U.heap = h0) (fun _ _ _ _ _ => True) (fun _ U o U' => ∃ v L, o = .returned v ∧ own_Q (.int (0 : Int32)) h0 n0 v U'.heap L ∧ FrameEnd U o U' L ({ frames := 0, cells := 0, slots := 0, locals := 0 } : Room).cells ({ frames := 0, cells := 0, slots := 0, locals := 0 } : Room).slots) := by
  refine MetFree.of_bodySF (plainFor_of_name pn_3) hisR ?_
  intro p e s m args below meth c s₁ Bd hml0 hP hK
  obtain ⟨rfl, hZ, hh⟩ := hP
  have hx := Bd.exec
  have hby := Bd.bytes
  have hml : c.maxLocals = 1 := hml0
  have hown : s.vm.findClass "com/example/querywright/querywright/derived/ResultShape" = some m.cls := findClass_of_methodNamed Bd.named
  have X0 : Stand p l e ({ frames := 0, cells := 0, slots := 0, locals := 0 } : Room) s m #[(.ref a_NOTHING)] below meth c s₁ [] 0 0 := Stand.of_body Bd
  have e0 : s₁.heap = h0 := by rw [← hh, Bd.state]; rfl
  have N0 := Fr.nil n0
  have pre0 : ∀ t, Steps p.tables e below (s₁.setTop (mkF m 0 #[.val (.ref a_NOTHING)] [])) t → Steps p.tables e below (s₁.setTop (entryFrame m #[(.ref a_NOTHING)] 1)) t := fun t k => castTop (ef_3 m a_NOTHING) k
  obtain ⟨T1, X1, e1, st1⟩ := getS2 X0 hx hZ hown (host := "") (Or.inl (hw _ (List.mem_of_getElem? (i := 23) rfl))) Via.refl e0 (fx_S_ONE FF) (g := (mkF m 1 #[.val (.ref a_NOTHING)] [(.ref a_NOTHING)])) rfl (hb hby d3_1)
  obtain ⟨T2, X2, e2, st2⟩ := getS2 X1 hx hZ hown (host := "") (Or.inl (hw _ (List.mem_of_getElem? (i := 26) rfl))) Via.refl e1 (fx_S_OPTIONAL FF) (g := (mkF m 8 #[.val (.ref a_NOTHING)] [(.ref a_NOTHING)])) rfl (hb hby d3_8)
  obtain ⟨fs, hr, hrun, hended, hW, hsame⟩ := X2.leave (v := some (.int (0 : Int32))) (fun h => by rw [Bd.returns] at h; cases h)
  refine ⟨_, _, pre0 _ ?_, hrun, hended, _, _, rfl, ?_, ⟨_, rfl⟩, hW, hsame.mono (by decide) (by decide)⟩
  · show Steps p.tables e below (s₁.setTop (mkF m 0 #[.val (.ref a_NOTHING)] [])) _
    refine XS.aloadN X0.here hx rfl (hb hby d3_0) rfl rfl ?_
    show Steps p.tables e below (s₁.setTop (mkF m 1 #[.val (.ref a_NOTHING)] [(.ref a_NOTHING)])) _
    refine st1 _ ?_
    show Steps p.tables e below (T1.setTop (mkF m 4 #[.val (.ref a_NOTHING)] [(.ref a_ONE), (.ref a_NOTHING)])) _
    refine Jvm.RoadKit.acmp (g := (mkF m 4 #[.val (.ref a_NOTHING)] [(.ref a_ONE), (.ref a_NOTHING)])) X1 hx rfl rfl rfl (pc0 := 4) (pc' := 7) (same := false) rfl (hb hby d3_4) rfl (decide_eq_false fun q => Fld.ne (fx_F_NOTHING_ordinal FF) (fx_F_ONE_ordinal FF) (by decide) (Value.ref.inj q)) (by decide) (by decide) ?_
    show Steps p.tables e below (T1.setTop (mkF m 7 #[.val (.ref a_NOTHING)] [])) _
    refine XS.aloadN X1.here hx rfl (hb hby d3_7) rfl rfl ?_
    show Steps p.tables e below (T1.setTop (mkF m 8 #[.val (.ref a_NOTHING)] [(.ref a_NOTHING)])) _
    refine st2 _ ?_
    show Steps p.tables e below (T2.setTop (mkF m 11 #[.val (.ref a_NOTHING)] [(.ref a_OPTIONAL), (.ref a_NOTHING)])) _
    refine Jvm.RoadKit.acmp (g := (mkF m 11 #[.val (.ref a_NOTHING)] [(.ref a_OPTIONAL), (.ref a_NOTHING)])) X2 hx rfl rfl rfl (pc0 := 11) (pc' := 18) (same := false) rfl (hb hby d3_11) rfl (decide_eq_false fun q => Fld.ne (fx_F_NOTHING_ordinal FF) (fx_F_OPTIONAL_ordinal FF) (by decide) (Value.ref.inj q)) (by decide) (by decide) ?_
    show Steps p.tables e below (T2.setTop (mkF m 18 #[.val (.ref a_NOTHING)] [])) _
    refine XS.iconst X2.here hx rfl (hb hby d3_18) ?_
    show Steps p.tables e below (T2.setTop (mkF m 19 #[.val (.ref a_NOTHING)] [(.int (0 : Int32))])) _
    exact retN X2 hx (t := .boolean) Bd.returns (by simp) (hb hby d3_19) hr
  · show own_Q _ _ _ _ T2.heap _
    exact ⟨rfl, N0, e2⟩
set_option maxRecDepth 65536 in
set_option maxHeartbeats 40000000 in
theorem rm0_9 (l : Launch) (Z : State) (a0 : Array Value) (hw : ∀ d ∈ tables_1, d.before a0 Z = true) (ws : List Jvm.Cond) (p0 : Int32) (a_ONE a_SET a_OPTIONAL a_ARRAY a_INT a_LIST a_BOOLEAN a_NOTHING a_STREAM a_LONG : Addr) (h0 : Heap) (n0 : Nat) (Z0 : n0 ≤ h0.size) (FF : Facts Z h0 a_ONE a_SET a_OPTIONAL a_ARRAY a_INT a_LIST a_BOOLEAN a_NOTHING a_STREAM a_LONG) (hk0 : ((p0 &&& (2147483647 : Int32)) % (10 : Int32)) = (9 : Int32)) :
    MetFree l x (head1 (Jvm.Cond.code x code maxLocals ret :: ws) room_1) (fun a U => a = #[(.int p0)] ∧ Z.Warmed39 U.vm ∧ U.heap = h0) (fun _ _ _ _ _ => True) (fun _ U o U' => ∃ v L, o = .returned v ∧ (v = some (.int (1 : Int32)) ∧ Fr n0 L) ∧ FrameEnd U o U' L room_1.cells room_1.slots) := by
  refine MetFree.of_bodySF (plainFor_of_name pn_0) hisR ?_
  intro p e s m args below meth c s₁ Bd hml0 hP hK
  obtain ⟨rfl, hZ, hh⟩ := hP
  have hx := Bd.exec
  have hby := Bd.bytes
  have hml : c.maxLocals = 5 := hml0
  have hown : s.vm.findClass "com/example/querywright/querywright/derived/ResultShapeHoldsRowsPinLaw" = some m.cls := findClass_of_methodNamed Bd.named
  have X0 : Stand p l e room_1 s m #[(.int p0)] below meth c s₁ [] 0 0 := Stand.of_body Bd
  have e0 : s₁.heap = h0 := by rw [← hh, Bd.state]; rfl
  have N0 := Fr.nil n0
  have pre0 : ∀ t, Steps p.tables e below (s₁.setTop (mkF m 0 #[.val (.int p0), .unset, .unset, .unset, .unset] [])) t → Steps p.tables e below (s₁.setTop (entryFrame m #[(.int p0)] maxLocals)) t := fun t k => castTop (ef_0 m p0) k
  obtain ⟨T1, X1, e1, st1⟩ := getS2 X0 hx hZ hown (host := "") (Or.inl (hw _ (List.mem_of_getElem? (i := 37) rfl))) Via.refl e0 (fx_S_NOTHING FF) (g := (mkF m 136 #[.val (.int p0), .val (.int (9 : Int32)), .unset, .unset, .unset] [])) rfl (hb hby at_136)
  obtain ⟨cq2, kq2, q2a, q2b, q2c⟩ := isOf hZ e1 (fx_E_NOTHING FF)
  obtain ⟨_, _, ⟨T2, L2, k2, n2⟩, -, X2, ⟨Lc2, hQ2, l2, y2, z2⟩, st2⟩ := X1.virtualBack hx (y := (⟨"com/example/querywright/querywright/derived/ResultShape", "holdsRows", "()Z"⟩ : MethodName)) (z := (⟨"com/example/querywright/querywright/derived/ResultShape", "holdsRows", "()Z"⟩ : MethodName)) hown (mvT hZ (hw _ (List.mem_of_getElem? (i := 4) rfl))) (mvT hZ (hw _ (List.mem_of_getElem? (i := 5) rfl))) (notFace_of_selects (args := #[]) (mvT hZ (hw _ (List.mem_of_getElem? (i := 7) rfl)))) (mvT hZ (hw _ (List.mem_of_getElem? (i := 7) rfl))) (mvT hZ (hw _ (List.mem_of_getElem? (i := 6) rfl))) (by decide) (backOf (W := 0) (rm1_9 l Z a0 hw [] p0 a_ONE a_SET a_OPTIONAL a_ARRAY a_INT a_LIST a_BOOLEAN a_NOTHING a_STREAM a_LONG h0 n0 (Nat.le_trans Z0 (Nat.le_refl _)) FF) hZ (hw _ (List.mem_of_getElem? (i := 8) rfl)) (hw _ (List.mem_of_getElem? (i := 2) rfl)) (by decide) (by decide)) q2a q2c (g := (mkF m 143 #[.val (.int p0), .val (.int (9 : Int32)), .val (.ref a_NOTHING), .val (.int (0 : Int32)), .unset] [(.ref a_NOTHING)])) rfl (by rw [hml]; rfl) (Steps.refl _) (argsL := []) (rest := []) (lenOf pd_1 rfl) rfl (by show 2 * 0 + _ ≤ _; exact Nat.le_of_eq rfl) (hb hby at_143) (fun _ _ => ⟨rfl, e1, (by decide : 0 + 0 ≤ _), (by decide : 0 + 0 ≤ _)⟩)
  dsimp only [Pt.U, Pt.locs, Pt.cells, Pt.slots] at X2 l2 y2 z2 st2 hQ2
  subst l2 y2 z2
  obtain ⟨rfl, N2q, e2⟩ := hQ2
  have N2 := Fr.app N0 N2q
  obtain ⟨cq3, kq3, q3a, q3b, q3c⟩ := isOf hZ e2 (fx_E_NOTHING FF)
  obtain ⟨_, _, ⟨T3, L3, k3, n3⟩, -, X3, ⟨Lc3, hQ3, l3, y3, z3⟩, st3⟩ := X2.virtualBack hx (y := (⟨"com/example/querywright/querywright/derived/ResultShape", "isSingle", "()Z"⟩ : MethodName)) (z := (⟨"com/example/querywright/querywright/derived/ResultShape", "isSingle", "()Z"⟩ : MethodName)) hown (mvT hZ (hw _ (List.mem_of_getElem? (i := 18) rfl))) (mvT hZ (hw _ (List.mem_of_getElem? (i := 19) rfl))) (notFace_of_selects (args := #[]) (mvT hZ (hw _ (List.mem_of_getElem? (i := 21) rfl)))) (mvT hZ (hw _ (List.mem_of_getElem? (i := 21) rfl))) (mvT hZ (hw _ (List.mem_of_getElem? (i := 20) rfl))) (by decide) (backOf (W := 0) (rm3_9 l Z a0 hw [] p0 a_ONE a_SET a_OPTIONAL a_ARRAY a_INT a_LIST a_BOOLEAN a_NOTHING a_STREAM a_LONG h0 n0 (Nat.le_trans Z0 (Nat.le_refl _)) FF) hZ (hw _ (List.mem_of_getElem? (i := 22) rfl)) (hw _ (List.mem_of_getElem? (i := 2) rfl)) (by decide) (by decide)) q3a q3c (g := (mkF m 155 #[.val (.int p0), .val (.int (9 : Int32)), .val (.ref a_NOTHING), .val (.int (0 : Int32)), .val (.int (0 : Int32))] [(.ref a_NOTHING)])) rfl (by rw [hml]; rfl) (Steps.refl _) (argsL := []) (rest := []) (lenOf pd_1 rfl) rfl (by show 2 * 0 + _ ≤ _; exact Nat.le_of_eq rfl) (hb hby at_155) (fun _ _ => ⟨rfl, e2, (by decide : 0 + 0 ≤ _), (by decide : 0 + 0 ≤ _)⟩)
  dsimp only [Pt.U, Pt.locs, Pt.cells, Pt.slots] at X3 l3 y3 z3 st3 hQ3
  subst l3 y3 z3
  obtain ⟨rfl, N3q, e3⟩ := hQ3
  have N3 := Fr.app N2 N3q
  obtain ⟨fs, hr, hrun, hended, hW, hsame⟩ := X3.leave (v := some (.int (1 : Int32))) (fun h => by rw [Bd.returns] at h; cases h)
  refine ⟨_, _, pre0 _ ?_, hrun, hended, _, _, rfl, ?_, ⟨_, rfl⟩, hW, hsame.mono (by decide) (by decide)⟩
  · show Steps p.tables e below (s₁.setTop (mkF m 0 #[.val (.int p0), .unset, .unset, .unset, .unset] [])) _
    refine XS.iloadN X0.here hx rfl (hb hby at_0) rfl ?_
    show Steps p.tables e below (s₁.setTop (mkF m 1 #[.val (.int p0), .unset, .unset, .unset, .unset] [(.int p0)])) _
    refine X0.ldcInt hx hown (mvT hZ (hw _ (List.mem_of_getElem? (i := 0) rfl))) (g := (mkF m 1 #[.val (.int p0), .unset, .unset, .unset, .unset] [(.int p0)])) rfl (hb hby at_1) _ ?_
    show Steps p.tables e below (s₁.setTop (mkF m 3 #[.val (.int p0), .unset, .unset, .unset, .unset] [(.int (2147483647 : Int32)), (.int p0)])) _
    refine XS.iand X0.here hx rfl (hb hby at_3) rfl ?_
    show Steps p.tables e below (s₁.setTop (mkF m 4 #[.val (.int p0), .unset, .unset, .unset, .unset] [(.int (p0 &&& (2147483647 : Int32)))])) _
    refine XS.bipush X0.here hx rfl (hb hby at_4) ?_
    show Steps p.tables e below (s₁.setTop (mkF m 6 #[.val (.int p0), .unset, .unset, .unset, .unset] [(.int (10 : Int32)), (.int (p0 &&& (2147483647 : Int32)))])) _
    refine iremM X0 hx rfl (hb hby at_6) rfl (by decide) ?_
    show Steps p.tables e below (s₁.setTop (mkF m 7 #[.val (.int p0), .unset, .unset, .unset, .unset] [(.int ((p0 &&& (2147483647 : Int32)) % (10 : Int32)))])) _
    rw [hk0]
    show Steps p.tables e below (s₁.setTop (mkF m 7 #[.val (.int p0), .unset, .unset, .unset, .unset] [(.int (9 : Int32))])) _
    refine XS.istoreN X0.here hx rfl (hb hby at_7) rfl (l' := #[.val (.int p0), .val (.int (9 : Int32)), .unset, .unset, .unset]) rfl ?_
    show Steps p.tables e below (s₁.setTop (mkF m 8 #[.val (.int p0), .val (.int (9 : Int32)), .unset, .unset, .unset] [])) _
    refine XS.iloadN X0.here hx rfl (hb hby at_8) rfl ?_
    show Steps p.tables e below (s₁.setTop (mkF m 9 #[.val (.int p0), .val (.int (9 : Int32)), .unset, .unset, .unset] [(.int (9 : Int32))])) _
    refine XS.ifYes X0.here hx rfl (pc0 := 9) (pc' := 21) rfl (hb hby at_9) rfl (by decide) (by decide) (by decide) ?_
    show Steps p.tables e below (s₁.setTop (mkF m 21 #[.val (.int p0), .val (.int (9 : Int32)), .unset, .unset, .unset] [])) _
    refine XS.iloadN X0.here hx rfl (hb hby at_21) rfl ?_
    show Steps p.tables e below (s₁.setTop (mkF m 22 #[.val (.int p0), .val (.int (9 : Int32)), .unset, .unset, .unset] [(.int (9 : Int32))])) _
    refine XS.iconst X0.here hx rfl (hb hby at_22) ?_
    show Steps p.tables e below (s₁.setTop (mkF m 23 #[.val (.int p0), .val (.int (9 : Int32)), .unset, .unset, .unset] [(.int (1 : Int32)), (.int (9 : Int32))])) _
    refine XS.icmpYes X0.here hx rfl (pc0 := 23) (pc' := 35) rfl (hb hby at_23) rfl (by decide) (by decide) (by decide) ?_
    show Steps p.tables e below (s₁.setTop (mkF m 35 #[.val (.int p0), .val (.int (9 : Int32)), .unset, .unset, .unset] [])) _
    refine XS.iloadN X0.here hx rfl (hb hby at_35) rfl ?_
    show Steps p.tables e below (s₁.setTop (mkF m 36 #[.val (.int p0), .val (.int (9 : Int32)), .unset, .unset, .unset] [(.int (9 : Int32))])) _
    refine XS.iconst X0.here hx rfl (hb hby at_36) ?_
    show Steps p.tables e below (s₁.setTop (mkF m 37 #[.val (.int p0), .val (.int (9 : Int32)), .unset, .unset, .unset] [(.int (2 : Int32)), (.int (9 : Int32))])) _
    refine XS.icmpYes X0.here hx rfl (pc0 := 37) (pc' := 49) rfl (hb hby at_37) rfl (by decide) (by decide) (by decide) ?_
    show Steps p.tables e below (s₁.setTop (mkF m 49 #[.val (.int p0), .val (.int (9 : Int32)), .unset, .unset, .unset] [])) _
    refine XS.iloadN X0.here hx rfl (hb hby at_49) rfl ?_
    show Steps p.tables e below (s₁.setTop (mkF m 50 #[.val (.int p0), .val (.int (9 : Int32)), .unset, .unset, .unset] [(.int (9 : Int32))])) _
    refine XS.iconst X0.here hx rfl (hb hby at_50) ?_
    show Steps p.tables e below (s₁.setTop (mkF m 51 #[.val (.int p0), .val (.int (9 : Int32)), .unset, .unset, .unset] [(.int (3 : Int32)), (.int (9 : Int32))])) _
    refine XS.icmpYes X0.here hx rfl (pc0 := 51) (pc' := 63) rfl (hb hby at_51) rfl (by decide) (by decide) (by decide) ?_
    show Steps p.tables e below (s₁.setTop (mkF m 63 #[.val (.int p0), .val (.int (9 : Int32)), .unset, .unset, .unset] [])) _
    refine XS.iloadN X0.here hx rfl (hb hby at_63) rfl ?_
    show Steps p.tables e below (s₁.setTop (mkF m 64 #[.val (.int p0), .val (.int (9 : Int32)), .unset, .unset, .unset] [(.int (9 : Int32))])) _
    refine XS.iconst X0.here hx rfl (hb hby at_64) ?_
    show Steps p.tables e below (s₁.setTop (mkF m 65 #[.val (.int p0), .val (.int (9 : Int32)), .unset, .unset, .unset] [(.int (4 : Int32)), (.int (9 : Int32))])) _
    refine XS.icmpYes X0.here hx rfl (pc0 := 65) (pc' := 77) rfl (hb hby at_65) rfl (by decide) (by decide) (by decide) ?_
    show Steps p.tables e below (s₁.setTop (mkF m 77 #[.val (.int p0), .val (.int (9 : Int32)), .unset, .unset, .unset] [])) _
    refine XS.iloadN X0.here hx rfl (hb hby at_77) rfl ?_
    show Steps p.tables e below (s₁.setTop (mkF m 78 #[.val (.int p0), .val (.int (9 : Int32)), .unset, .unset, .unset] [(.int (9 : Int32))])) _
    refine XS.iconst X0.here hx rfl (hb hby at_78) ?_
    show Steps p.tables e below (s₁.setTop (mkF m 79 #[.val (.int p0), .val (.int (9 : Int32)), .unset, .unset, .unset] [(.int (5 : Int32)), (.int (9 : Int32))])) _
    refine XS.icmpYes X0.here hx rfl (pc0 := 79) (pc' := 91) rfl (hb hby at_79) rfl (by decide) (by decide) (by decide) ?_
    show Steps p.tables e below (s₁.setTop (mkF m 91 #[.val (.int p0), .val (.int (9 : Int32)), .unset, .unset, .unset] [])) _
    refine XS.iloadN X0.here hx rfl (hb hby at_91) rfl ?_
    show Steps p.tables e below (s₁.setTop (mkF m 92 #[.val (.int p0), .val (.int (9 : Int32)), .unset, .unset, .unset] [(.int (9 : Int32))])) _
    refine XS.bipush X0.here hx rfl (hb hby at_92) ?_
    show Steps p.tables e below (s₁.setTop (mkF m 94 #[.val (.int p0), .val (.int (9 : Int32)), .unset, .unset, .unset] [(.int (6 : Int32)), (.int (9 : Int32))])) _
    refine XS.icmpYes X0.here hx rfl (pc0 := 94) (pc' := 106) rfl (hb hby at_94) rfl (by decide) (by decide) (by decide) ?_
    show Steps p.tables e below (s₁.setTop (mkF m 106 #[.val (.int p0), .val (.int (9 : Int32)), .unset, .unset, .unset] [])) _
    refine XS.iloadN X0.here hx rfl (hb hby at_106) rfl ?_
    show Steps p.tables e below (s₁.setTop (mkF m 107 #[.val (.int p0), .val (.int (9 : Int32)), .unset, .unset, .unset] [(.int (9 : Int32))])) _
    refine XS.bipush X0.here hx rfl (hb hby at_107) ?_
    show Steps p.tables e below (s₁.setTop (mkF m 109 #[.val (.int p0), .val (.int (9 : Int32)), .unset, .unset, .unset] [(.int (7 : Int32)), (.int (9 : Int32))])) _
    refine XS.icmpYes X0.here hx rfl (pc0 := 109) (pc' := 121) rfl (hb hby at_109) rfl (by decide) (by decide) (by decide) ?_
    show Steps p.tables e below (s₁.setTop (mkF m 121 #[.val (.int p0), .val (.int (9 : Int32)), .unset, .unset, .unset] [])) _
    refine XS.iloadN X0.here hx rfl (hb hby at_121) rfl ?_
    show Steps p.tables e below (s₁.setTop (mkF m 122 #[.val (.int p0), .val (.int (9 : Int32)), .unset, .unset, .unset] [(.int (9 : Int32))])) _
    refine XS.bipush X0.here hx rfl (hb hby at_122) ?_
    show Steps p.tables e below (s₁.setTop (mkF m 124 #[.val (.int p0), .val (.int (9 : Int32)), .unset, .unset, .unset] [(.int (8 : Int32)), (.int (9 : Int32))])) _
    refine XS.icmpYes X0.here hx rfl (pc0 := 124) (pc' := 136) rfl (hb hby at_124) rfl (by decide) (by decide) (by decide) ?_
    show Steps p.tables e below (s₁.setTop (mkF m 136 #[.val (.int p0), .val (.int (9 : Int32)), .unset, .unset, .unset] [])) _
    refine st1 _ ?_
    show Steps p.tables e below (T1.setTop (mkF m 139 #[.val (.int p0), .val (.int (9 : Int32)), .unset, .unset, .unset] [(.ref a_NOTHING)])) _
    refine XS.astoreN X1.here hx rfl (hb hby at_139) rfl rfl (l' := #[.val (.int p0), .val (.int (9 : Int32)), .val (.ref a_NOTHING), .unset, .unset]) rfl ?_
    show Steps p.tables e below (T1.setTop (mkF m 140 #[.val (.int p0), .val (.int (9 : Int32)), .val (.ref a_NOTHING), .unset, .unset] [])) _
    refine XS.iconst X1.here hx rfl (hb hby at_140) ?_
    show Steps p.tables e below (T1.setTop (mkF m 141 #[.val (.int p0), .val (.int (9 : Int32)), .val (.ref a_NOTHING), .unset, .unset] [(.int (0 : Int32))])) _
    refine XS.istoreN X1.here hx rfl (hb hby at_141) rfl (l' := #[.val (.int p0), .val (.int (9 : Int32)), .val (.ref a_NOTHING), .val (.int (0 : Int32)), .unset]) rfl ?_
    show Steps p.tables e below (T1.setTop (mkF m 142 #[.val (.int p0), .val (.int (9 : Int32)), .val (.ref a_NOTHING), .val (.int (0 : Int32)), .unset] [])) _
    refine XS.aloadN X1.here hx rfl (hb hby at_142) rfl rfl ?_
    show Steps p.tables e below (T1.setTop (mkF m 143 #[.val (.int p0), .val (.int (9 : Int32)), .val (.ref a_NOTHING), .val (.int (0 : Int32)), .unset] [(.ref a_NOTHING)])) _
    refine st2.trans ?_
    show Steps p.tables e below (T2.setTop (mkF m 146 #[.val (.int p0), .val (.int (9 : Int32)), .val (.ref a_NOTHING), .val (.int (0 : Int32)), .unset] [(.int (0 : Int32))])) _
    refine XS.istore X2.here hx rfl (hb hby at_146) rfl (l' := #[.val (.int p0), .val (.int (9 : Int32)), .val (.ref a_NOTHING), .val (.int (0 : Int32)), .val (.int (0 : Int32))]) rfl ?_
    show Steps p.tables e below (T2.setTop (mkF m 148 #[.val (.int p0), .val (.int (9 : Int32)), .val (.ref a_NOTHING), .val (.int (0 : Int32)), .val (.int (0 : Int32))] [])) _
    refine XS.iload X2.here hx rfl (hb hby at_148) rfl ?_
    show Steps p.tables e below (T2.setTop (mkF m 150 #[.val (.int p0), .val (.int (9 : Int32)), .val (.ref a_NOTHING), .val (.int (0 : Int32)), .val (.int (0 : Int32))] [(.int (0 : Int32))])) _
    refine XS.iloadN X2.here hx rfl (hb hby at_150) rfl ?_
    show Steps p.tables e below (T2.setTop (mkF m 151 #[.val (.int p0), .val (.int (9 : Int32)), .val (.ref a_NOTHING), .val (.int (0 : Int32)), .val (.int (0 : Int32))] [(.int (0 : Int32)), (.int (0 : Int32))])) _
    refine XS.icmpNo X2.here hx rfl (hb hby at_151) rfl (by decide) ?_
    show Steps p.tables e below (T2.setTop (mkF m 154 #[.val (.int p0), .val (.int (9 : Int32)), .val (.ref a_NOTHING), .val (.int (0 : Int32)), .val (.int (0 : Int32))] [])) _
    refine XS.aloadN X2.here hx rfl (hb hby at_154) rfl rfl ?_
    show Steps p.tables e below (T2.setTop (mkF m 155 #[.val (.int p0), .val (.int (9 : Int32)), .val (.ref a_NOTHING), .val (.int (0 : Int32)), .val (.int (0 : Int32))] [(.ref a_NOTHING)])) _
    refine st3.trans ?_
    show Steps p.tables e below (T3.setTop (mkF m 158 #[.val (.int p0), .val (.int (9 : Int32)), .val (.ref a_NOTHING), .val (.int (0 : Int32)), .val (.int (0 : Int32))] [(.int (0 : Int32))])) _
    refine XS.ifYes X3.here hx rfl (pc0 := 158) (pc' := 166) rfl (hb hby at_158) rfl (by decide) (by decide) (by decide) ?_
    show Steps p.tables e below (T3.setTop (mkF m 166 #[.val (.int p0), .val (.int (9 : Int32)), .val (.ref a_NOTHING), .val (.int (0 : Int32)), .val (.int (0 : Int32))] [])) _
    refine XS.iconst X3.here hx rfl (hb hby at_166) ?_
    show Steps p.tables e below (T3.setTop (mkF m 167 #[.val (.int p0), .val (.int (9 : Int32)), .val (.ref a_NOTHING), .val (.int (0 : Int32)), .val (.int (0 : Int32))] [(.int (1 : Int32))])) _
    refine XS.goto X3.here hx rfl (pc0 := 167) (pc' := 171) rfl (hb hby at_167) (by decide) (by decide) ?_
    show Steps p.tables e below (T3.setTop (mkF m 171 #[.val (.int p0), .val (.int (9 : Int32)), .val (.ref a_NOTHING), .val (.int (0 : Int32)), .val (.int (0 : Int32))] [(.int (1 : Int32))])) _
    exact retN X3 hx (t := .boolean) Bd.returns (by simp) (hb hby at_171) hr
  · exact ⟨rfl, N3⟩
theorem rm0 (l : Launch) (Z : State) (a0 : Array Value) (hw : ∀ d ∈ tables_1, d.before a0 Z = true) (ws : List Jvm.Cond) (p0 : Int32) (a_ONE a_SET a_OPTIONAL a_ARRAY a_INT a_LIST a_BOOLEAN a_NOTHING a_STREAM a_LONG : Addr) (h0 : Heap) (n0 : Nat) (Z0 : n0 ≤ h0.size) (FF : Facts Z h0 a_ONE a_SET a_OPTIONAL a_ARRAY a_INT a_LIST a_BOOLEAN a_NOTHING a_STREAM a_LONG) :
    MetFree l x (head1 (Jvm.Cond.code x code maxLocals ret :: ws) room_1) (fun a U => a = #[(.int p0)] ∧ Z.Warmed39 U.vm ∧ U.heap = h0) (fun _ _ _ _ _ => True) (fun _ U o U' => ∃ v L, o = .returned v ∧ (v = some (.int (1 : Int32)) ∧ Fr n0 L) ∧ FrameEnd U o U' L room_1.cells room_1.slots) := by
  rcases own_split0 p0 with hk0 | hk0 | hk0 | hk0 | hk0 | hk0 | hk0 | hk0 | hk0 | hk0
  · exact rm0_0 l Z a0 hw ws p0 a_ONE a_SET a_OPTIONAL a_ARRAY a_INT a_LIST a_BOOLEAN a_NOTHING a_STREAM a_LONG h0 n0 Z0 FF hk0
  · exact rm0_1 l Z a0 hw ws p0 a_ONE a_SET a_OPTIONAL a_ARRAY a_INT a_LIST a_BOOLEAN a_NOTHING a_STREAM a_LONG h0 n0 Z0 FF hk0
  · exact rm0_2 l Z a0 hw ws p0 a_ONE a_SET a_OPTIONAL a_ARRAY a_INT a_LIST a_BOOLEAN a_NOTHING a_STREAM a_LONG h0 n0 Z0 FF hk0
  · exact rm0_3 l Z a0 hw ws p0 a_ONE a_SET a_OPTIONAL a_ARRAY a_INT a_LIST a_BOOLEAN a_NOTHING a_STREAM a_LONG h0 n0 Z0 FF hk0
  · exact rm0_4 l Z a0 hw ws p0 a_ONE a_SET a_OPTIONAL a_ARRAY a_INT a_LIST a_BOOLEAN a_NOTHING a_STREAM a_LONG h0 n0 Z0 FF hk0
  · exact rm0_5 l Z a0 hw ws p0 a_ONE a_SET a_OPTIONAL a_ARRAY a_INT a_LIST a_BOOLEAN a_NOTHING a_STREAM a_LONG h0 n0 Z0 FF hk0
  · exact rm0_6 l Z a0 hw ws p0 a_ONE a_SET a_OPTIONAL a_ARRAY a_INT a_LIST a_BOOLEAN a_NOTHING a_STREAM a_LONG h0 n0 Z0 FF hk0
  · exact rm0_7 l Z a0 hw ws p0 a_ONE a_SET a_OPTIONAL a_ARRAY a_INT a_LIST a_BOOLEAN a_NOTHING a_STREAM a_LONG h0 n0 Z0 FF hk0
  · exact rm0_8 l Z a0 hw ws p0 a_ONE a_SET a_OPTIONAL a_ARRAY a_INT a_LIST a_BOOLEAN a_NOTHING a_STREAM a_LONG h0 n0 Z0 FF hk0
  · exact rm0_9 l Z a0 hw ws p0 a_ONE a_SET a_OPTIONAL a_ARRAY a_INT a_LIST a_BOOLEAN a_NOTHING a_STREAM a_LONG h0 n0 Z0 FF hk0
set_option maxRecDepth 65536 in
set_option maxHeartbeats 40000000 in
theorem comes_1 {Post : Tables → Env → Array Value → State → Outcome → State → Prop} (hpost : ∀ tb e args s v u, (limb_1_1.after args s (.returned v) u = true ∧ limb_1_2.after args s (.returned v) u = true ∧ True) → FrameEnd s (.returned v) u (Jvm.fieldLocs frame_1_writes args s ++ Jvm.arrayLocs frame_1_arrays args s ++ Jvm.staticLocs frame_1_statics s) 0 0 → Post tb e args s (.returned v) u) :
    ArmFor flags0 classFile x code maxLocals ret World_1 tables_1 room_1 Calls_1 rest_1 Pre_1 Post := by
  intro l hfl _ _ p e ha hc hk s m args below hf hA hF happ hP
  obtain ⟨hcalls, hrest, hpre⟩ := hP
  obtain ⟨-, -, -, hnamed, -, -, -, hat⟩ := (Spec.applies_iff hf).mp happ
  obtain ⟨hg, hn⟩ := and_e (Cond.before_iff.mp (show (Jvm.Cond.and given_1 narrow_1).before args s = true from hpre))
  obtain ⟨gc, gr0⟩ := and_e hg
  obtain ⟨w0, rfl⟩ : ∃ w0 : Value, args = #[w0] := by
    have hs : args.size = 1 := by simpa [Cond.value, given_1] using gc
    obtain ⟨L⟩ := args
    match L, hs with
    | [w0], _ => exact ⟨w0, rfl⟩
  have hw := fun d (hd : d ∈ tables_1) => atoms_spec (ws := Jvm.Cond.code x code maxLocals ret :: tables_1) hat d (List.mem_cons_of_mem _ hd)
  obtain ⟨i0, ei0⟩ := is_v gr0
  obtain rfl : w0 = (.int i0) := Option.some.inj ei0
  obtain ⟨na1, nb1⟩ := and_e hn
  obtain ⟨na2, nb2⟩ := and_e nb1
  obtain ⟨na3, nb3⟩ := and_e nb2
  obtain ⟨na4, nb4⟩ := and_e nb3
  obtain ⟨na5, nb5⟩ := and_e nb4
  obtain ⟨na6, nb6⟩ := and_e nb5
  obtain ⟨na7, nb7⟩ := and_e nb6
  obtain ⟨na8, nb8⟩ := and_e nb7
  obtain ⟨na9, nb9⟩ := and_e nb8
  obtain ⟨na10, nb10⟩ := and_e nb9
  obtain ⟨na11, nb11⟩ := and_e nb10
  obtain ⟨na12, nb12⟩ := and_e nb11
  obtain ⟨na13, nb13⟩ := and_e nb12
  obtain ⟨na14, nb14⟩ := and_e nb13
  obtain ⟨na15, nb15⟩ := and_e nb14
  obtain ⟨na16, nb16⟩ := and_e nb15
  obtain ⟨na17, nb17⟩ := and_e nb16
  obtain ⟨na18, nb18⟩ := and_e nb17
  obtain ⟨na19, nb19⟩ := and_e nb18
  obtain ⟨a_ONE, ev_a_ONE⟩ := exa_v na1
  obtain ⟨a_SET, ev_a_SET⟩ := exa_v na3
  obtain ⟨a_OPTIONAL, ev_a_OPTIONAL⟩ := exa_v na5
  obtain ⟨a_ARRAY, ev_a_ARRAY⟩ := exa_v na7
  obtain ⟨a_INT, ev_a_INT⟩ := exa_v na9
  obtain ⟨a_LIST, ev_a_LIST⟩ := exa_v na11
  obtain ⟨a_BOOLEAN, ev_a_BOOLEAN⟩ := exa_v na13
  obtain ⟨a_NOTHING, ev_a_NOTHING⟩ := exa_v na15
  obtain ⟨a_STREAM, ev_a_STREAM⟩ := exa_v na17
  obtain ⟨a_LONG, ev_a_LONG⟩ := exa_v na19
  have FF : Facts s s.heap a_ONE a_SET a_OPTIONAL a_ARRAY a_INT a_LIST a_BOOLEAN a_NOTHING a_STREAM a_LONG := ⟨Sta.start ev_a_ONE (Or.inr ⟨(hw _ (List.mem_of_getElem? (i := 2) rfl)), (hw _ (List.mem_of_getElem? (i := 3) rfl))⟩), Exa.start ev_a_ONE na1, Fld.start ((fld_at ev_a_ONE).symm.trans (own_eqi na2)), Sta.start ev_a_SET (Or.inr ⟨(hw _ (List.mem_of_getElem? (i := 2) rfl)), (hw _ (List.mem_of_getElem? (i := 25) rfl))⟩), Exa.start ev_a_SET na3, Fld.start ((fld_at ev_a_SET).symm.trans (own_eqi na4)), Sta.start ev_a_OPTIONAL (Or.inr ⟨(hw _ (List.mem_of_getElem? (i := 2) rfl)), (hw _ (List.mem_of_getElem? (i := 27) rfl))⟩), Exa.start ev_a_OPTIONAL na5, Fld.start ((fld_at ev_a_OPTIONAL).symm.trans (own_eqi na6)), Sta.start ev_a_ARRAY (Or.inr ⟨(hw _ (List.mem_of_getElem? (i := 2) rfl)), (hw _ (List.mem_of_getElem? (i := 30) rfl))⟩), Exa.start ev_a_ARRAY na7, Fld.start ((fld_at ev_a_ARRAY).symm.trans (own_eqi na8)), Sta.start ev_a_INT (Or.inr ⟨(hw _ (List.mem_of_getElem? (i := 2) rfl)), (hw _ (List.mem_of_getElem? (i := 32) rfl))⟩), Exa.start ev_a_INT na9, Fld.start ((fld_at ev_a_INT).symm.trans (own_eqi na10)), Sta.start ev_a_LIST (Or.inr ⟨(hw _ (List.mem_of_getElem? (i := 2) rfl)), (hw _ (List.mem_of_getElem? (i := 34) rfl))⟩), Exa.start ev_a_LIST na11, Fld.start ((fld_at ev_a_LIST).symm.trans (own_eqi na12)), Sta.start ev_a_BOOLEAN (Or.inr ⟨(hw _ (List.mem_of_getElem? (i := 2) rfl)), (hw _ (List.mem_of_getElem? (i := 36) rfl))⟩), Exa.start ev_a_BOOLEAN na13, Fld.start ((fld_at ev_a_BOOLEAN).symm.trans (own_eqi na14)), Sta.start ev_a_NOTHING (Or.inr ⟨(hw _ (List.mem_of_getElem? (i := 2) rfl)), (hw _ (List.mem_of_getElem? (i := 38) rfl))⟩), Exa.start ev_a_NOTHING na15, Fld.start ((fld_at ev_a_NOTHING).symm.trans (own_eqi na16)), Sta.start ev_a_STREAM (Or.inr ⟨(hw _ (List.mem_of_getElem? (i := 2) rfl)), (hw _ (List.mem_of_getElem? (i := 40) rfl))⟩), Exa.start ev_a_STREAM na17, Fld.start ((fld_at ev_a_STREAM).symm.trans (own_eqi na18)), Sta.start ev_a_LONG (Or.inr ⟨(hw _ (List.mem_of_getElem? (i := 2) rfl)), (hw _ (List.mem_of_getElem? (i := 42) rfl))⟩), Exa.start ev_a_LONG na19, Fld.start ((fld_at ev_a_LONG).symm.trans (own_eqi nb19))⟩
  obtain ⟨n, o, h1, h2, h3, _, L, rfl, ⟨rfl, N⟩, hq⟩ := rm0 l s _ hw tables_1 i0 a_ONE a_SET a_OPTIONAL a_ARRAY a_INT a_LIST a_BOOLEAN a_NOTHING a_STREAM a_LONG s.heap s.heap.size (Nat.le_refl _) FF p e ha hc hk s m _ below hf ((Spec.applies_iff_loose hf).mp happ).1 ⟨rfl, State.Warmed39.refl s, rfl⟩ trivial
  refine ⟨n, _, h1, h2, h3, hpost _ _ _ _ _ _ ⟨Cond.after_iff.mpr rfl, Cond.after_iff.mpr (eq_i res_at (Term.int_eval (1)) rfl), trivial⟩ ⟨hq.1, hq.2.1, (hq.2.2.sift fun y hy => Or.inr (N y hy)).mono (by decide) (by decide)⟩⟩
theorem main_1_1 : Claimed_1_1 := comes_1 fun _ _ _ _ _ _ h hF => ⟨h.1, hF⟩
theorem main_1_2 : Claimed_1_2 := comes_1 fun _ _ _ _ _ _ h hF => ⟨h.2.1, hF⟩
end Jvm.Pilot.@@N@@
namespace Jvm.Pilot.@@N@@
open Jvm Jvm.ClassFile Sem Op Lib Jvm.Free Jvm.Stand Jvm.Pilot.@@N@@.Jvm.D
/-! MADE BY PROGRAM (witnessworld.py) out of the Statement's table words and the real class files: 12 classes; the members and pool entries that the words name. The judged class is class 1, her method 1. -/
namespace start1
open Jvm.ClassFile
def u (s : String) : CpInfo := .utf8 (stringToUtf16 s)
/-- a pool by its gaps: so many unusable entries, then the entry; so many at the end -/
def gap : Nat → List CpInfo → List CpInfo
  | 0, r => r
  | n + 1, r => .unusable :: gap n r
def poolList (es : List (Nat × CpInfo)) (last : Nat) : List CpInfo := es.foldr (fun e r => gap e.1 (e.2 :: r)) (gap last [])
def pool (es : List (Nat × CpInfo)) (last : Nat) : Array CpInfo := ⟨poolList es last⟩
def fileOf (pool : Array CpInfo) (this : Nat) (attrs : Array Attribute := #[]) (ms : Array MethodInfo := #[]) (fl : Nat := 33) (sup : Nat := 0) (ifs : Array Nat := #[]) (fds : Array FieldInfo := #[]) : ClassFile where
  minorVersion := 0
  majorVersion := 65
  constantPool := pool
  accessFlags := fl
  thisClass := this
  superClass := sup
  interfaces := ifs
  fields := fds
  methods := ms
  attributes := attrs
def plain (name : String) (sup : Option ClassId) : Class where
  name := name
  kind := .ordinary
  loader := none
  accessFlags := 33
  super := sup
  interfaces := #[]
  cf := none
  fields := #[]
  methods := #[]
  instanceTypes := #[]
  staticTypes := #[]
  resolved := #[]
  callSites := []
  init := .initialized
  statics := none
  mirror := none

def pool0 : Array CpInfo := pool [(5, u "<init>"), (0, u "()V"), (1, .class_ 10), (1, u "java/lang/Object")] 113

def k0m0 : Method := { name := "<init>", desc := "()V", sig := { parameters := [], returnType := none }, accessFlags := 1, code := none }
/-- java/lang/Object -/
def k0 : Class := { plain "java/lang/Object" none with
  accessFlags := 33
  interfaces := #[]
  cf := some (fileOf pool0 8 #[] #[{ accessFlags := 1, nameIndex := 5, descriptorIndex := 6, attributes := #[] }] 33 0 #[] #[])
  fields := #[]
  methods := #[k0m0]
  instanceTypes := #[]
  staticTypes := #[]
  resolved := Array.replicate 124 none
  statics := none }

def pool1 : Array CpInfo := pool [(2, .class_ 4), (1, u "java/lang/Object"), (0, u "<init>"), (0, u "()V"), (0, .integer 2147483647), (0, .fieldref 9 10), (0, .class_ 11), (0, .nameAndType 12 13), (0, u "com/example/querywright/querywright/derived/ResultShape"), (0, u "ONE"), (0, u "Lcom/example/querywright/querywright/derived/ResultShape;"), (0, .fieldref 9 15), (0, .nameAndType 16 13), (0, u "OPTIONAL"), (0, .fieldref 9 18), (0, .nameAndType 19 13), (0, u "LIST"), (0, .fieldref 9 21), (0, .nameAndType 22 13), (0, u "SET"), (0, .fieldref 9 24), (0, .nameAndType 25 13), (0, u "ARRAY"), (0, .fieldref 9 27), (0, .nameAndType 28 13), (0, u "STREAM"), (0, .fieldref 9 30), (0, .nameAndType 31 13), (0, u "LONG"), (0, .fieldref 9 33), (0, .nameAndType 34 13), (0, u "INT"), (0, .fieldref 9 36), (0, .nameAndType 37 13), (0, u "BOOLEAN"), (0, .fieldref 9 39), (0, .nameAndType 40 13), (0, u "NOTHING"), (0, .methodref 9 42), (0, .nameAndType 43 44), (0, u "holdsRows"), (0, u "()Z"), (0, .methodref 9 46), (0, .nameAndType 47 44), (0, u "isSingle"), (0, .class_ 49), (0, u "com/example/querywright/querywright/derived/ResultShapeHoldsRowsPinLaw"), (2, u "law"), (0, u "(I)Z")] 3

def k1m0 : Method := { name := "<init>", desc := "()V", sig := { parameters := [], returnType := none }, accessFlags := 1, code := none }
def k1c1 : Code := { maxStack := 2, maxLocals := 5, code := code, exceptionTable := #[], attributes := #[] }
def k1m1 : Method := { name := "law", desc := "(I)Z", sig := { parameters := [.int], returnType := some .boolean }, accessFlags := 9, code := some k1c1 }
/-- com/example/querywright/querywright/derived/ResultShapeHoldsRowsPinLaw -/
def k1 : Class := { plain "com/example/querywright/querywright/derived/ResultShapeHoldsRowsPinLaw" (some 0) with
  accessFlags := 49
  interfaces := #[]
  cf := some (fileOf pool1 48 #[] #[{ accessFlags := 1, nameIndex := 5, descriptorIndex := 6, attributes := #[] }, { accessFlags := 9, nameIndex := 52, descriptorIndex := 53, attributes := #[] }] 49 2 #[] #[])
  fields := #[]
  methods := #[k1m0, k1m1]
  instanceTypes := #[]
  staticTypes := #[]
  resolved := Array.replicate 57 none
  statics := none }

def pool2 : Array CpInfo := pool [(1, .class_ 2), (0, u "java/lang/constant/Constable"), (0, .class_ 4), (0, u "java/lang/Object")] 6

/-- java/lang/constant/Constable -/
def k2 : Class := { plain "java/lang/constant/Constable" (some 0) with
  accessFlags := 1537
  interfaces := #[]
  cf := some (fileOf pool2 1 #[] #[] 1537 3 #[] #[])
  fields := #[]
  methods := #[]
  instanceTypes := #[]
  staticTypes := #[]
  resolved := Array.replicate 11 none
  statics := none }

def pool3 : Array CpInfo := pool [(1, .class_ 2), (0, u "java/lang/Comparable"), (0, .class_ 4), (0, u "java/lang/Object")] 7

/-- java/lang/Comparable -/
def k3 : Class := { plain "java/lang/Comparable" (some 0) with
  accessFlags := 1537
  interfaces := #[]
  cf := some (fileOf pool3 1 #[] #[] 1537 3 #[] #[])
  fields := #[]
  methods := #[]
  instanceTypes := #[]
  staticTypes := #[]
  resolved := Array.replicate 12 none
  statics := none }

def pool4 : Array CpInfo := pool [(1, .class_ 2), (0, u "java/io/Serializable"), (0, .class_ 4), (0, u "java/lang/Object")] 2

/-- java/io/Serializable -/
def k4 : Class := { plain "java/io/Serializable" (some 0) with
  accessFlags := 1537
  interfaces := #[]
  cf := some (fileOf pool4 1 #[] #[] 1537 3 #[] #[])
  fields := #[]
  methods := #[]
  instanceTypes := #[]
  staticTypes := #[]
  resolved := Array.replicate 7 none
  statics := none }

def pool5 : Array CpInfo := pool [(2, .class_ 4), (1, u "java/lang/Enum"), (0, u "name"), (0, u "Ljava/lang/String;"), (0, .fieldref 2 8), (0, .nameAndType 9 10), (0, u "ordinal"), (0, u "I"), (1, .class_ 14), (1, u "java/lang/Object"), (4, u "hash"), (86, .class_ 108), (1, u "java/lang/Enum$EnumDesc"), (2, .class_ 112), (0, u "java/lang/constant/Constable"), (0, .class_ 114), (0, u "java/lang/Comparable"), (0, .class_ 116), (0, u "java/io/Serializable"), (9, u "()I")] 77

def k5c0 : Code := { maxStack := 1, maxLocals := 1, code := jdk_37_method_2_code, exceptionTable := #[], attributes := #[] }
def k5m0 : Method := { name := "ordinal", desc := "()I", sig := { parameters := [], returnType := some .int }, accessFlags := 17, code := some k5c0 }
/-- java/lang/Enum -/
def k5 : Class := { plain "java/lang/Enum" (some 0) with
  accessFlags := 1057
  interfaces := #[2, 3, 4]
  cf := some (fileOf pool5 2 #[.nestMembers #[106]] #[{ accessFlags := 17, nameIndex := 9, descriptorIndex := 126, attributes := #[] }] 1057 12 #[111, 113, 115] #[{ accessFlags := 18, nameIndex := 5, descriptorIndex := 6, attributes := #[] }, { accessFlags := 18, nameIndex := 9, descriptorIndex := 10, attributes := #[] }, { accessFlags := 2, nameIndex := 19, descriptorIndex := 10, attributes := #[] }])
  fields := #[{ name := "name", type := (.object "java/lang/String"), accessFlags := 18, slot := 0, constantValue := 0 }, { name := "ordinal", type := .int, accessFlags := 18, slot := 1, constantValue := 0 }, { name := "hash", type := .int, accessFlags := 2, slot := 2, constantValue := 0 }]
  methods := #[k5m0]
  instanceTypes := #[(.object "java/lang/String"), .int, .int]
  staticTypes := #[]
  resolved := Array.replicate 204 none
  statics := none }

def pool6 : Array CpInfo := pool [(1, .class_ 2), (0, u "com/example/querywright/querywright/derived/ResultShape"), (0, .fieldref 1 4), (0, .nameAndType 5 6), (0, u "ONE"), (0, u "Lcom/example/querywright/querywright/derived/ResultShape;"), (0, .fieldref 1 8), (0, .nameAndType 9 6), (0, u "OPTIONAL"), (2, u "LIST"), (2, u "SET"), (2, u "ARRAY"), (2, u "STREAM"), (2, u "LONG"), (2, u "INT"), (2, u "BOOLEAN"), (2, u "NOTHING"), (2, u "$VALUES"), (0, u "[Lcom/example/querywright/querywright/derived/ResultShape;"), (6, .class_ 46), (1, u "java/lang/Enum"), (14, u "types"), (0, u "Ljava/util/List;"), (5, u "()Z"), (8, .methodref 1 78), (0, .nameAndType 79 80), (0, u "ordinal"), (0, u "()I"), (58, u "holdsRows"), (0, u "isSingle")] 5

def k6c0 : Code := { maxStack := 4, maxLocals := 1, code := prog_24_method_6_code, exceptionTable := #[], attributes := #[] }
def k6m0 : Method := { name := "holdsRows", desc := "()Z", sig := { parameters := [], returnType := some .boolean }, accessFlags := 1, code := some k6c0 }
def k6c1 : Code := { maxStack := 2, maxLocals := 1, code := prog_24_method_7_code, exceptionTable := #[], attributes := #[] }
def k6m1 : Method := { name := "isSingle", desc := "()Z", sig := { parameters := [], returnType := some .boolean }, accessFlags := 1, code := some k6c1 }
/-- com/example/querywright/querywright/derived/ResultShape -/
def k6 : Class := { plain "com/example/querywright/querywright/derived/ResultShape" (some 5) with
  accessFlags := 16433
  interfaces := #[]
  cf := some (fileOf pool6 1 #[] #[{ accessFlags := 1, nameIndex := 139, descriptorIndex := 68, attributes := #[] }, { accessFlags := 1, nameIndex := 140, descriptorIndex := 68, attributes := #[] }] 16433 44 #[] #[{ accessFlags := 16409, nameIndex := 5, descriptorIndex := 6, attributes := #[] }, { accessFlags := 16409, nameIndex := 9, descriptorIndex := 6, attributes := #[] }, { accessFlags := 16409, nameIndex := 12, descriptorIndex := 6, attributes := #[] }, { accessFlags := 16409, nameIndex := 15, descriptorIndex := 6, attributes := #[] }, { accessFlags := 16409, nameIndex := 18, descriptorIndex := 6, attributes := #[] }, { accessFlags := 16409, nameIndex := 21, descriptorIndex := 6, attributes := #[] }, { accessFlags := 16409, nameIndex := 24, descriptorIndex := 6, attributes := #[] }, { accessFlags := 16409, nameIndex := 27, descriptorIndex := 6, attributes := #[] }, { accessFlags := 16409, nameIndex := 30, descriptorIndex := 6, attributes := #[] }, { accessFlags := 16409, nameIndex := 33, descriptorIndex := 6, attributes := #[] }, { accessFlags := 18, nameIndex := 61, descriptorIndex := 62, attributes := #[] }, { accessFlags := 4122, nameIndex := 36, descriptorIndex := 37, attributes := #[] }])
  fields := #[{ name := "ONE", type := (.object "com/example/querywright/querywright/derived/ResultShape"), accessFlags := 16409, slot := 0, constantValue := 0 }, { name := "OPTIONAL", type := (.object "com/example/querywright/querywright/derived/ResultShape"), accessFlags := 16409, slot := 1, constantValue := 0 }, { name := "LIST", type := (.object "com/example/querywright/querywright/derived/ResultShape"), accessFlags := 16409, slot := 2, constantValue := 0 }, { name := "SET", type := (.object "com/example/querywright/querywright/derived/ResultShape"), accessFlags := 16409, slot := 3, constantValue := 0 }, { name := "ARRAY", type := (.object "com/example/querywright/querywright/derived/ResultShape"), accessFlags := 16409, slot := 4, constantValue := 0 }, { name := "STREAM", type := (.object "com/example/querywright/querywright/derived/ResultShape"), accessFlags := 16409, slot := 5, constantValue := 0 }, { name := "LONG", type := (.object "com/example/querywright/querywright/derived/ResultShape"), accessFlags := 16409, slot := 6, constantValue := 0 }, { name := "INT", type := (.object "com/example/querywright/querywright/derived/ResultShape"), accessFlags := 16409, slot := 7, constantValue := 0 }, { name := "BOOLEAN", type := (.object "com/example/querywright/querywright/derived/ResultShape"), accessFlags := 16409, slot := 8, constantValue := 0 }, { name := "NOTHING", type := (.object "com/example/querywright/querywright/derived/ResultShape"), accessFlags := 16409, slot := 9, constantValue := 0 }, { name := "types", type := (.object "java/util/List"), accessFlags := 18, slot := 3, constantValue := 0 }, { name := "$VALUES", type := (.array (.object "com/example/querywright/querywright/derived/ResultShape")), accessFlags := 4122, slot := 10, constantValue := 0 }]
  methods := #[k6m0, k6m1]
  instanceTypes := #[(.object "java/lang/String"), .int, .int, (.object "java/util/List")]
  staticTypes := #[(.object "com/example/querywright/querywright/derived/ResultShape"), (.object "com/example/querywright/querywright/derived/ResultShape"), (.object "com/example/querywright/querywright/derived/ResultShape"), (.object "com/example/querywright/querywright/derived/ResultShape"), (.object "com/example/querywright/querywright/derived/ResultShape"), (.object "com/example/querywright/querywright/derived/ResultShape"), (.object "com/example/querywright/querywright/derived/ResultShape"), (.object "com/example/querywright/querywright/derived/ResultShape"), (.object "com/example/querywright/querywright/derived/ResultShape"), (.object "com/example/querywright/querywright/derived/ResultShape"), (.array (.object "com/example/querywright/querywright/derived/ResultShape"))]
  resolved := Array.replicate 146 none
  statics := some 0 }

def pool7 : Array CpInfo := pool [(1, u "java/lang/Cloneable"), (0, .class_ 1), (0, u "java/lang/Object"), (0, .class_ 3)] 3

/-- java/lang/Cloneable -/
def k7 : Class := { plain "java/lang/Cloneable" (some 0) with
  accessFlags := 1537
  interfaces := #[]
  cf := some (fileOf pool7 2 #[] #[] 1537 4 #[] #[])
  fields := #[]
  methods := #[]
  instanceTypes := #[]
  staticTypes := #[]
  resolved := Array.replicate 8 none
  statics := none }

/-- the primitive byte -/
def k8 : Class := { plain "byte" none with kind := .primitive 'B', accessFlags := 0x411 }
/-- [B -/
def k9 : Class := { plain "[B" (some 0) with kind := .array 8 .byte, interfaces := #[7, 4], accessFlags := 1041 }

/-- the primitive int -/
def k10 : Class := { plain "int" none with kind := .primitive 'I', accessFlags := 0x411 }
/-- [I -/
def k11 : Class := { plain "[I" (some 0) with kind := .array 10 .int, interfaces := #[7, 4], accessFlags := 1041 }

def heap : Heap := #[{ cls := 6, slots := #[.ref 1, .ref 3, .ref 6, .ref 2, .ref 4, .ref 9, .ref 10, .ref 5, .ref 7, .ref 8, .null], vm := .statics 6 },
  { cls := 6, slots := #[.null, .int 0, .int 0, .null], vm := .none },
  { cls := 6, slots := #[.null, .int 3, .int 0, .null], vm := .none },
  { cls := 6, slots := #[.null, .int 1, .int 0, .null], vm := .none },
  { cls := 6, slots := #[.null, .int 4, .int 0, .null], vm := .none },
  { cls := 6, slots := #[.null, .int 7, .int 0, .null], vm := .none },
  { cls := 6, slots := #[.null, .int 2, .int 0, .null], vm := .none },
  { cls := 6, slots := #[.null, .int 8, .int 0, .null], vm := .none },
  { cls := 6, slots := #[.null, .int 9, .int 0, .null], vm := .none },
  { cls := 6, slots := #[.null, .int 5, .int 0, .null], vm := .none },
  { cls := 6, slots := #[.null, .int 6, .int 0, .null], vm := .none }]
def classes : Array Class := #[k0, k1, k2, k3, k4, k5, k6, k7, k8, k9, k10, k11]
def interned : List (Array UInt16 × Addr) := []
def slotsUsed : Nat := 51
def theMethod : MethodId := ⟨1, 1⟩
def args0 : Array Value := #[.int 5]
def aboutOver (below : List Frame) : State where
  vm := { classes := classes, interned := interned.toArray }
  heap := heap
  slotsUsed := slotsUsed
  threads := #[{ frames := .invoking theMethod args0 :: below }]
def below0 : List Frame := [.native { method := ⟨0, 0⟩, args := #[] }]
def about1 : State := aboutOver below0
def p0 : Program := .bare "" "" ""
def e0 : Env := launch0.env 0 0 0
theorem w_frames : about1.frames = Frame.invoking theMethod args0 :: below0 := rfl
set_option maxRecDepth 65536 in
theorem w_args : argsFit about1.vm theMethod args0 = true := by decide +kernel
set_option maxRecDepth 65536 in
theorem w_heap : heapFits about1 = true := by decide +kernel
set_option maxRecDepth 65536 in
theorem w_runnable : about1.curStatus? = some .runnable := by decide +kernel
set_option maxRecDepth 65536 in
theorem w_alone : about1.alone = true := by decide +kernel
set_option maxRecDepth 65536 in
theorem w_named : about1.methodNamed? x = some theMethod := by decide +kernel
set_option maxRecDepth 65536 in
theorem w_hears : about1.hears theMethod below0 = true := by decide +kernel
set_option maxRecDepth 65536 in
theorem w_ripe : about1.ripe theMethod args0 below0 = true := by decide +kernel
theorem w_running : about1.status = .running := rfl
set_option maxRecDepth 65536 in
theorem w_room : about1.hasRoom e0.platform room_1 = true :=
  launch0.hasRoom_least _ room_1 (by decide +kernel) (by decide +kernel) (by decide +kernel) (by decide +kernel) (by decide +kernel) (by decide +kernel)
theorem allAtoms_all (ts : List Jvm.Cond) (a : Array Jvm.Value) (st : Jvm.State) : (allAtoms ts).before a st = ts.all (fun c => c.before a st) := by
  induction ts with
  | nil => rfl
  | cons c t ih =>
    show (Jvm.Cond.and c (allAtoms t)).before a st = _
    rw [Jvm.Cond.before_and, ih, List.all_cons]
def words1 : List Jvm.Cond := Jvm.Cond.code x code maxLocals ret :: tables_1
/-- a 'code' word, met by the world's own term for the bytes: nothing is compared byte by byte -/
theorem code_word {y : MethodName} {bytes : ByteArray} {mx : Nat} {rt : Option FieldType} {a : Array Value} {s : State} {m : MethodId} {meth : Method} {c : Code} (h1 : s.methodNamed? y = some m) (h2 : s.vm.method? m = some meth) (h3 : meth.code = some c) (h4 : c.code = bytes)
    (h5 : (c.maxLocals == mx && c.exceptionTable.isEmpty && decide (c.maxStack ≤ mostOperands) && decide (meth.sig.returnType = rt) && !meth.locks && decide (parseMethodDescriptor y.desc = some meth.sig)) = true) : (Jvm.Cond.code y bytes mx rt).before a s = true := by
  simp only [Bool.and_eq_true, beq_iff_eq, Bool.not_eq_true', decide_eq_true_eq] at h5
  obtain ⟨⟨⟨⟨⟨g1, g2⟩, g3⟩, g4⟩, g5⟩, g6⟩ := h5
  simp [Cond.before, Cond.holds, Cond.value, h1, h2, h3, h4, g1, g2, g3, g4, g5, g6]
def isCode : Jvm.Cond → Bool
  | .code _ _ _ _ => true
  | _ => false
theorem all_split {L : List Jvm.Cond} {P : Jvm.Cond → Bool} (h1 : L.all (fun c => isCode c || P c) = true) (h2 : ∀ c ∈ L.filter isCode, P c = true) : L.all P = true := by
  refine List.all_eq_true.mpr fun c hc => ?_
  have h := List.all_eq_true.mp h1 c hc
  rcases Bool.eq_false_or_eq_true (isCode c) with hi | hi
  · exact h2 c (List.mem_filter.mpr ⟨hc, hi⟩)
  · simpa [hi] using h
set_option maxRecDepth 65536 in
theorem w_c0 : (Jvm.Cond.code x code maxLocals ret).before args0 about1 = true := code_word (m := ⟨1, 1⟩) (meth := k1m1) (c := k1c1) (by decide +kernel) rfl rfl rfl (by decide +kernel)
set_option maxRecDepth 65536 in
theorem w_c1 : (Jvm.Cond.code ({ cls := "com/example/querywright/querywright/derived/ResultShape", name := "holdsRows", desc := "()Z" } : Jvm.MethodName) prog_24_method_6_code (1 : Nat) (Option.some Jvm.ClassFile.FieldType.boolean)).before args0 about1 = true := code_word (m := ⟨6, 0⟩) (meth := k6m0) (c := k6c0) (by decide +kernel) rfl rfl rfl (by decide +kernel)
set_option maxRecDepth 65536 in
theorem w_c2 : (Jvm.Cond.code ({ cls := "java/lang/Enum", name := "ordinal", desc := "()I" } : Jvm.MethodName) jdk_37_method_2_code (1 : Nat) (Option.some Jvm.ClassFile.FieldType.int)).before args0 about1 = true := code_word (m := ⟨5, 0⟩) (meth := k5m0) (c := k5c0) (by decide +kernel) rfl rfl rfl (by decide +kernel)
set_option maxRecDepth 65536 in
theorem w_c3 : (Jvm.Cond.code ({ cls := "com/example/querywright/querywright/derived/ResultShape", name := "isSingle", desc := "()Z" } : Jvm.MethodName) prog_24_method_7_code (1 : Nat) (Option.some Jvm.ClassFile.FieldType.boolean)).before args0 about1 = true := code_word (m := ⟨6, 1⟩) (meth := k6m1) (c := k6c1) (by decide +kernel) rfl rfl rfl (by decide +kernel)
def codes1 : List Jvm.Cond := [Jvm.Cond.code x code maxLocals ret, Jvm.Cond.code ({ cls := "com/example/querywright/querywright/derived/ResultShape", name := "holdsRows", desc := "()Z" } : Jvm.MethodName) prog_24_method_6_code (1 : Nat) (Option.some Jvm.ClassFile.FieldType.boolean), Jvm.Cond.code ({ cls := "java/lang/Enum", name := "ordinal", desc := "()I" } : Jvm.MethodName) jdk_37_method_2_code (1 : Nat) (Option.some Jvm.ClassFile.FieldType.int), Jvm.Cond.code ({ cls := "com/example/querywright/querywright/derived/ResultShape", name := "isSingle", desc := "()Z" } : Jvm.MethodName) prog_24_method_7_code (1 : Nat) (Option.some Jvm.ClassFile.FieldType.boolean)]
set_option maxRecDepth 65536 in
theorem codes_eq : words1.filter isCode = codes1 := rfl
theorem w_codes : ∀ c ∈ words1.filter isCode, c.before args0 about1 = true := by
  rw [codes_eq]
  intro c hc
  simp only [codes1, List.mem_cons, List.not_mem_nil, or_false] at hc
  rcases hc with rfl | rfl | rfl | rfl
  · exact w_c0
  · exact w_c1
  · exact w_c2
  · exact w_c3
set_option maxRecDepth 65536 in
theorem w_t1 : (words1.take 24).all (fun c => isCode c || c.before args0 about1) = true := by decide +kernel
set_option maxRecDepth 65536 in
theorem w_t2 : (words1.drop 24).all (fun c => isCode c || c.before args0 about1) = true := by decide +kernel
theorem w_tables : (allAtoms (Jvm.Cond.code x code maxLocals ret :: tables_1)).before args0 about1 = true := by
  rw [allAtoms_all]
  show words1.all (fun c => c.before args0 about1) = true
  refine all_split ?_ w_codes
  rw [← List.take_append_drop 24 words1, List.all_append, w_t1, w_t2]
  rfl
set_option maxRecDepth 65536 in
theorem w_case : (Jvm.Cond.and given_1 narrow_1).before args0 about1 = true := by decide +kernel
theorem w_applies : (headSpec (Jvm.Cond.code x code maxLocals ret :: tables_1) room_1).applies x e0.platform about1 = true :=
  (Spec.applies_iff w_frames).mpr ⟨w_running, w_runnable, w_alone, w_named, w_hears, w_ripe, w_room, w_tables⟩
theorem atStart : AtStart classFile x code maxLocals ret World_1 tables_1 room_1 Calls_1 rest_1 Pre_1 launch0 p0 e0 about1 theMethod args0 below0 :=
  ⟨lists_1, trivial, launch0.admits_env _ _ _, launch0.least_env, fairChoices_fair.cas, fairChoices_fair.clock, w_frames, w_args, w_heap, w_applies, trivial, trivial, w_case⟩
end start1
theorem witness_1 : WitnessClaimed_1 := ⟨start1.p0, start1.e0, start1.about1, start1.theMethod, start1.args0, start1.below0, start1.atStart⟩
end Jvm.Pilot.@@N@@

import JvmDerived
import JvmDerived.Pilot.@@N@@Statement
import JvmDerived.Pilot.@@N@@Code
set_option linter.unusedVariables false
set_option linter.unusedSimpArgs false
namespace Jvm.RoadKit
open Sem ClassFile Op Lib Jvm.Stand Jvm.Free Jvm.LawKit
section New
variable {p : Program} {l : Launch} {e : Env} {R : Room} {s : State} {m : MethodId} {args : Array Value} {below : List Frame} {meth : Method} {c : Code} {T : State} {locs : List Loc} {cells slots : Nat}
theorem retI (X : Stand p l e R s m args below meth c T locs cells slots) (hx : p.tables.exec = Jvm.exec) {pc : Nat} {Ls : Array Slot} {z : Int32} {rest : List Value} (hret : meth.sig.returnType = some .int) (hd : decode c.code pc = .ok (.ireturn, 1)) {fs : List Frame}
    (hl : ∀ (f : JFrame) (acts : List Action), f.method = m → f.locked = none → f.entered = [] → (doReturn e (T.setTop f) acts (some (.int z))).1 = T.setFrames fs) : Steps p.tables e below (T.setTop (mkF m pc Ls (.int z :: rest))) (T.setFrames fs) :=
  retOut X hx (t := .int) hret rfl (Or.inl ⟨rfl, Or.inl rfl, z, rfl⟩) hd hl
end New
end Jvm.RoadKit
namespace Jvm.Pilot.@@N@@
open Jvm Jvm.ClassFile Sem Op Lib Jvm.Free Jvm.Stand Jvm.LawKit Jvm.RoadKit Bundle Jvm.Pilot.@@N@@.Jvm.D
/-- the run from A on ends, and K holds of its end -/
def own_Fin (p : Program) (e : Env) (below : List Frame) (K : Outcome → State → Prop) (A : State) : Prop := ∃ t o, Steps p.tables e below A t ∧ t.status = .running ∧ Ended t below o ∧ K o t
theorem own_st {p : Program} {e : Env} {below : List Frame} {K : Outcome → State → Prop} {A B : State} (st : ∀ t, Steps p.tables e below B t → Steps p.tables e below A t) (h : own_Fin p e below K B) : own_Fin p e below K A := by
  obtain ⟨t, o, h1, h2⟩ := h
  exact ⟨t, o, st t h1, h2⟩
theorem own_tr {p : Program} {e : Env} {below : List Frame} {K : Outcome → State → Prop} {A B : State} (st : Steps p.tables e below A B) (h : own_Fin p e below K B) : own_Fin p e below K A := by
  obtain ⟨t, o, h1, h2⟩ := h
  exact ⟨t, o, st.trans h1, h2⟩
/-- what a body leaves that writes nothing: it returns r, the heap as it was -/
def own_Q (h0 : Heap) (n0 : Nat) (r : Option Value) (v : Option Value) (h : Heap) (L : List Loc) : Prop := v = r ∧ Fr n0 L ∧ h = h0
theorem own_eqI {args : Array Value} {s : State} {t : Term} {k : Int32} (h : (Jvm.Cond.eq t (.int k)).value args s none s [] = some true) : t.eval args s none [] s = some (.int k) := by
  cases ht : t.eval args s none [] s with
  | none => simp [Cond.value, ht] at h
  | some x => cases x <;> simp [Cond.value, ht, Term.eval] at h ⊢; exact h
theorem own_fld {args : Array Value} {s : State} {t : Term} {a : Addr} {C n d : String} {k : Int32} (ht : t.eval args s none [] s = some (.ref a)) (h : (Jvm.Cond.eq (.field t C n d) (.int k)).value args s none s [] = some true) : Fld s s.heap a C n d (.int k) :=
  Fld.start (by rw [← fld_at ht]; exact own_eqI h)
theorem own_fldR {args : Array Value} {s : State} {t u : Term} {a b : Addr} {C n d : String} (ht : t.eval args s none [] s = some (.ref a)) (hu : u.eval args s none [] s = some (.ref b)) (h : (Jvm.Cond.eq (.field t C n d) u).value args s none s [] = some true) : Fld s s.heap a C n d (.ref b) := by
  refine Fld.start ?_
  rw [← fld_at ht]
  cases he : (Term.field t C n d).eval args s none [] s with
  | none => simp [Cond.value, he] at h
  | some x => cases x <;> simp [Cond.value, he, hu] at h ⊢; exact h
theorem own_differ {args : Array Value} {s : State} {t u : Term} {a b : Addr} (ht : t.eval args s none [] s = some (.ref a)) (hu : u.eval args s none [] s = some (.ref b)) (h : (Jvm.Cond.not (.eq t u)).value args s none s [] = some true) : a ≠ b := by
  have h1 := not_v h
  have h2 := gotF (eq_R ht hu rfl rfl) h1
  exact fun e => h2 (congrArg Value.ref e)
theorem own_pick {r : Int32} {k : Int} (h : r.toInt = k) : r = Int32.ofInt k := by rw [← h, Int32.ofInt_toInt]
def own_Pins (Z : State) (h0 : Heap) (w_EQUAL w_IS_TRUE w_IS_FALSE w_GREATER_THAN_OR_EQUAL w_IS_NULL w_IS_NOT_NULL w_STARTING_WITH w_NOT_BETWEEN w_GREATER_THAN w_IN w_NOT_EQUAL w_NOT_IN w_ENDING_WITH w_BETWEEN w_NOT_CONTAINING w_CONTAINING w_LIKE w_LESS_THAN_OR_EQUAL w_LESS_THAN w_NOT_LIKE : Addr) : Prop := (Sta Z h0 "com/example/rootward/rootward/jdbc/Condition$Operator" "EQUAL" "Lcom/example/rootward/rootward/jdbc/Condition$Operator;" (.ref w_EQUAL)) ∧ (Exa Z h0 w_EQUAL "com/example/rootward/rootward/jdbc/Condition$Operator") ∧ (Sta Z h0 "com/example/rootward/rootward/jdbc/Condition$Operator" "IS_TRUE" "Lcom/example/rootward/rootward/jdbc/Condition$Operator;" (.ref w_IS_TRUE)) ∧ (Exa Z h0 w_IS_TRUE "com/example/rootward/rootward/jdbc/Condition$Operator") ∧ (Sta Z h0 "com/example/rootward/rootward/jdbc/Condition$Operator" "IS_FALSE" "Lcom/example/rootward/rootward/jdbc/Condition$Operator;" (.ref w_IS_FALSE)) ∧ (Exa Z h0 w_IS_FALSE "com/example/rootward/rootward/jdbc/Condition$Operator") ∧ (Sta Z h0 "com/example/rootward/rootward/jdbc/Condition$Operator" "GREATER_THAN_OR_EQUAL" "Lcom/example/rootward/rootward/jdbc/Condition$Operator;" (.ref w_GREATER_THAN_OR_EQUAL)) ∧ (Exa Z h0 w_GREATER_THAN_OR_EQUAL "com/example/rootward/rootward/jdbc/Condition$Operator") ∧ (Sta Z h0 "com/example/rootward/rootward/jdbc/Condition$Operator" "IS_NULL" "Lcom/example/rootward/rootward/jdbc/Condition$Operator;" (.ref w_IS_NULL)) ∧ (Exa Z h0 w_IS_NULL "com/example/rootward/rootward/jdbc/Condition$Operator") ∧ (Sta Z h0 "com/example/rootward/rootward/jdbc/Condition$Operator" "IS_NOT_NULL" "Lcom/example/rootward/rootward/jdbc/Condition$Operator;" (.ref w_IS_NOT_NULL)) ∧ (Exa Z h0 w_IS_NOT_NULL "com/example/rootward/rootward/jdbc/Condition$Operator") ∧ (Sta Z h0 "com/example/rootward/rootward/jdbc/Condition$Operator" "STARTING_WITH" "Lcom/example/rootward/rootward/jdbc/Condition$Operator;" (.ref w_STARTING_WITH)) ∧ (Exa Z h0 w_STARTING_WITH "com/example/rootward/rootward/jdbc/Condition$Operator") ∧ (Sta Z h0 "com/example/rootward/rootward/jdbc/Condition$Operator" "NOT_BETWEEN" "Lcom/example/rootward/rootward/jdbc/Condition$Operator;" (.ref w_NOT_BETWEEN)) ∧ (Exa Z h0 w_NOT_BETWEEN "com/example/rootward/rootward/jdbc/Condition$Operator") ∧ (Sta Z h0 "com/example/rootward/rootward/jdbc/Condition$Operator" "GREATER_THAN" "Lcom/example/rootward/rootward/jdbc/Condition$Operator;" (.ref w_GREATER_THAN)) ∧ (Exa Z h0 w_GREATER_THAN "com/example/rootward/rootward/jdbc/Condition$Operator") ∧ (Sta Z h0 "com/example/rootward/rootward/jdbc/Condition$Operator" "IN" "Lcom/example/rootward/rootward/jdbc/Condition$Operator;" (.ref w_IN)) ∧ (Exa Z h0 w_IN "com/example/rootward/rootward/jdbc/Condition$Operator") ∧ (Sta Z h0 "com/example/rootward/rootward/jdbc/Condition$Operator" "NOT_EQUAL" "Lcom/example/rootward/rootward/jdbc/Condition$Operator;" (.ref w_NOT_EQUAL)) ∧ (Exa Z h0 w_NOT_EQUAL "com/example/rootward/rootward/jdbc/Condition$Operator") ∧ (Sta Z h0 "com/example/rootward/rootward/jdbc/Condition$Operator" "NOT_IN" "Lcom/example/rootward/rootward/jdbc/Condition$Operator;" (.ref w_NOT_IN)) ∧ (Exa Z h0 w_NOT_IN "com/example/rootward/rootward/jdbc/Condition$Operator") ∧ (Sta Z h0 "com/example/rootward/rootward/jdbc/Condition$Operator" "ENDING_WITH" "Lcom/example/rootward/rootward/jdbc/Condition$Operator;" (.ref w_ENDING_WITH)) ∧ (Exa Z h0 w_ENDING_WITH "com/example/rootward/rootward/jdbc/Condition$Operator") ∧ (Sta Z h0 "com/example/rootward/rootward/jdbc/Condition$Operator" "BETWEEN" "Lcom/example/rootward/rootward/jdbc/Condition$Operator;" (.ref w_BETWEEN)) ∧ (Exa Z h0 w_BETWEEN "com/example/rootward/rootward/jdbc/Condition$Operator") ∧ (Sta Z h0 "com/example/rootward/rootward/jdbc/Condition$Operator" "NOT_CONTAINING" "Lcom/example/rootward/rootward/jdbc/Condition$Operator;" (.ref w_NOT_CONTAINING)) ∧ (Exa Z h0 w_NOT_CONTAINING "com/example/rootward/rootward/jdbc/Condition$Operator") ∧ (Sta Z h0 "com/example/rootward/rootward/jdbc/Condition$Operator" "CONTAINING" "Lcom/example/rootward/rootward/jdbc/Condition$Operator;" (.ref w_CONTAINING)) ∧ (Exa Z h0 w_CONTAINING "com/example/rootward/rootward/jdbc/Condition$Operator") ∧ (Sta Z h0 "com/example/rootward/rootward/jdbc/Condition$Operator" "LIKE" "Lcom/example/rootward/rootward/jdbc/Condition$Operator;" (.ref w_LIKE)) ∧ (Exa Z h0 w_LIKE "com/example/rootward/rootward/jdbc/Condition$Operator") ∧ (Sta Z h0 "com/example/rootward/rootward/jdbc/Condition$Operator" "LESS_THAN_OR_EQUAL" "Lcom/example/rootward/rootward/jdbc/Condition$Operator;" (.ref w_LESS_THAN_OR_EQUAL)) ∧ (Exa Z h0 w_LESS_THAN_OR_EQUAL "com/example/rootward/rootward/jdbc/Condition$Operator") ∧ (Sta Z h0 "com/example/rootward/rootward/jdbc/Condition$Operator" "LESS_THAN" "Lcom/example/rootward/rootward/jdbc/Condition$Operator;" (.ref w_LESS_THAN)) ∧ (Exa Z h0 w_LESS_THAN "com/example/rootward/rootward/jdbc/Condition$Operator") ∧ (Sta Z h0 "com/example/rootward/rootward/jdbc/Condition$Operator" "NOT_LIKE" "Lcom/example/rootward/rootward/jdbc/Condition$Operator;" (.ref w_NOT_LIKE)) ∧ (Exa Z h0 w_NOT_LIKE "com/example/rootward/rootward/jdbc/Condition$Operator") ∧ (Fld Z h0 w_EQUAL "java/lang/Enum" "ordinal" "I" (.int 0)) ∧ (Fld Z h0 w_IS_TRUE "java/lang/Enum" "ordinal" "I" (.int 18)) ∧ (Fld Z h0 w_IS_FALSE "java/lang/Enum" "ordinal" "I" (.int 19)) ∧ (Fld Z h0 w_GREATER_THAN_OR_EQUAL "java/lang/Enum" "ordinal" "I" (.int 3)) ∧ (Fld Z h0 w_IS_NULL "java/lang/Enum" "ordinal" "I" (.int 10)) ∧ (Fld Z h0 w_IS_NOT_NULL "java/lang/Enum" "ordinal" "I" (.int 11)) ∧ (Fld Z h0 w_STARTING_WITH "java/lang/Enum" "ordinal" "I" (.int 14)) ∧ (Fld Z h0 w_NOT_BETWEEN "java/lang/Enum" "ordinal" "I" (.int 7)) ∧ (Fld Z h0 w_GREATER_THAN "java/lang/Enum" "ordinal" "I" (.int 2)) ∧ (Fld Z h0 w_IN "java/lang/Enum" "ordinal" "I" (.int 8)) ∧ (Fld Z h0 w_NOT_EQUAL "java/lang/Enum" "ordinal" "I" (.int 1)) ∧ (Fld Z h0 w_IS_FALSE "com/example/rootward/rootward/jdbc/Condition$Operator" "arity" "I" (.int 0)) ∧ (Fld Z h0 w_IS_FALSE "com/example/rootward/rootward/jdbc/Condition$Operator" "text" "Z" (.int 0)) ∧ (Fld Z h0 w_NOT_IN "java/lang/Enum" "ordinal" "I" (.int 9)) ∧ (Fld Z h0 w_ENDING_WITH "java/lang/Enum" "ordinal" "I" (.int 15)) ∧ (Fld Z h0 w_BETWEEN "java/lang/Enum" "ordinal" "I" (.int 6)) ∧ (Fld Z h0 w_NOT_CONTAINING "java/lang/Enum" "ordinal" "I" (.int 17)) ∧ (Fld Z h0 w_CONTAINING "java/lang/Enum" "ordinal" "I" (.int 16)) ∧ (Fld Z h0 w_LIKE "java/lang/Enum" "ordinal" "I" (.int 12)) ∧ (Fld Z h0 w_LESS_THAN_OR_EQUAL "java/lang/Enum" "ordinal" "I" (.int 5)) ∧ (Fld Z h0 w_LESS_THAN "java/lang/Enum" "ordinal" "I" (.int 4)) ∧ (Fld Z h0 w_NOT_LIKE "java/lang/Enum" "ordinal" "I" (.int 13)) ∧ (Fld Z h0 w_IS_TRUE "com/example/rootward/rootward/jdbc/Condition$Operator" "arity" "I" (.int 0)) ∧ (Fld Z h0 w_IS_TRUE "com/example/rootward/rootward/jdbc/Condition$Operator" "text" "Z" (.int 0)) ∧ (Fld Z h0 w_EQUAL "com/example/rootward/rootward/jdbc/Condition$Operator" "arity" "I" (.int 1)) ∧ (Fld Z h0 w_EQUAL "com/example/rootward/rootward/jdbc/Condition$Operator" "text" "Z" (.int 0)) ∧ (Fld Z h0 w_GREATER_THAN_OR_EQUAL "com/example/rootward/rootward/jdbc/Condition$Operator" "arity" "I" (.int 1)) ∧ (Fld Z h0 w_GREATER_THAN_OR_EQUAL "com/example/rootward/rootward/jdbc/Condition$Operator" "text" "Z" (.int 0)) ∧ (Fld Z h0 w_IS_NULL "com/example/rootward/rootward/jdbc/Condition$Operator" "arity" "I" (.int 0)) ∧ (Fld Z h0 w_IS_NULL "com/example/rootward/rootward/jdbc/Condition$Operator" "text" "Z" (.int 0)) ∧ (Fld Z h0 w_IS_NOT_NULL "com/example/rootward/rootward/jdbc/Condition$Operator" "arity" "I" (.int 0)) ∧ (Fld Z h0 w_IS_NOT_NULL "com/example/rootward/rootward/jdbc/Condition$Operator" "text" "Z" (.int 0)) ∧ (Fld Z h0 w_STARTING_WITH "com/example/rootward/rootward/jdbc/Condition$Operator" "arity" "I" (.int 1)) ∧ (Fld Z h0 w_STARTING_WITH "com/example/rootward/rootward/jdbc/Condition$Operator" "text" "Z" (.int 1)) ∧ (Fld Z h0 w_NOT_BETWEEN "com/example/rootward/rootward/jdbc/Condition$Operator" "arity" "I" (.int 2)) ∧ (Fld Z h0 w_NOT_BETWEEN "com/example/rootward/rootward/jdbc/Condition$Operator" "text" "Z" (.int 0)) ∧ (Fld Z h0 w_GREATER_THAN "com/example/rootward/rootward/jdbc/Condition$Operator" "arity" "I" (.int 1)) ∧ (Fld Z h0 w_GREATER_THAN "com/example/rootward/rootward/jdbc/Condition$Operator" "text" "Z" (.int 0)) ∧ (Fld Z h0 w_IN "com/example/rootward/rootward/jdbc/Condition$Operator" "arity" "I" (.int 1)) ∧ (Fld Z h0 w_IN "com/example/rootward/rootward/jdbc/Condition$Operator" "text" "Z" (.int 0)) ∧ (Fld Z h0 w_NOT_EQUAL "com/example/rootward/rootward/jdbc/Condition$Operator" "arity" "I" (.int 1)) ∧ (Fld Z h0 w_NOT_EQUAL "com/example/rootward/rootward/jdbc/Condition$Operator" "text" "Z" (.int 0)) ∧ (Fld Z h0 w_NOT_IN "com/example/rootward/rootward/jdbc/Condition$Operator" "arity" "I" (.int 1)) ∧ (Fld Z h0 w_NOT_IN "com/example/rootward/rootward/jdbc/Condition$Operator" "text" "Z" (.int 0)) ∧ (Fld Z h0 w_ENDING_WITH "com/example/rootward/rootward/jdbc/Condition$Operator" "arity" "I" (.int 1)) ∧ (Fld Z h0 w_ENDING_WITH "com/example/rootward/rootward/jdbc/Condition$Operator" "text" "Z" (.int 1)) ∧ (Fld Z h0 w_BETWEEN "com/example/rootward/rootward/jdbc/Condition$Operator" "arity" "I" (.int 2)) ∧ (Fld Z h0 w_BETWEEN "com/example/rootward/rootward/jdbc/Condition$Operator" "text" "Z" (.int 0)) ∧ (Fld Z h0 w_NOT_CONTAINING "com/example/rootward/rootward/jdbc/Condition$Operator" "arity" "I" (.int 1)) ∧ (Fld Z h0 w_NOT_CONTAINING "com/example/rootward/rootward/jdbc/Condition$Operator" "text" "Z" (.int 1)) ∧ (Fld Z h0 w_CONTAINING "com/example/rootward/rootward/jdbc/Condition$Operator" "arity" "I" (.int 1)) ∧ (Fld Z h0 w_CONTAINING "com/example/rootward/rootward/jdbc/Condition$Operator" "text" "Z" (.int 1)) ∧ (Fld Z h0 w_LIKE "com/example/rootward/rootward/jdbc/Condition$Operator" "arity" "I" (.int 1)) ∧ (Fld Z h0 w_LIKE "com/example/rootward/rootward/jdbc/Condition$Operator" "text" "Z" (.int 1)) ∧ (Fld Z h0 w_LESS_THAN_OR_EQUAL "com/example/rootward/rootward/jdbc/Condition$Operator" "arity" "I" (.int 1)) ∧ (Fld Z h0 w_LESS_THAN_OR_EQUAL "com/example/rootward/rootward/jdbc/Condition$Operator" "text" "Z" (.int 0)) ∧ (Fld Z h0 w_LESS_THAN "com/example/rootward/rootward/jdbc/Condition$Operator" "arity" "I" (.int 1)) ∧ (Fld Z h0 w_LESS_THAN "com/example/rootward/rootward/jdbc/Condition$Operator" "text" "Z" (.int 0)) ∧ (Fld Z h0 w_NOT_LIKE "com/example/rootward/rootward/jdbc/Condition$Operator" "arity" "I" (.int 1)) ∧ (Fld Z h0 w_NOT_LIKE "com/example/rootward/rootward/jdbc/Condition$Operator" "text" "Z" (.int 1))
theorem own_mod20 (p : Int32) : (p &&& (2147483647 : Int32)) % (20 : Int32) = (0 : Int32) ∨ (p &&& (2147483647 : Int32)) % (20 : Int32) = (1 : Int32) ∨ (p &&& (2147483647 : Int32)) % (20 : Int32) = (2 : Int32) ∨ (p &&& (2147483647 : Int32)) % (20 : Int32) = (3 : Int32) ∨ (p &&& (2147483647 : Int32)) % (20 : Int32) = (4 : Int32) ∨ (p &&& (2147483647 : Int32)) % (20 : Int32) = (5 : Int32) ∨ (p &&& (2147483647 : Int32)) % (20 : Int32) = (6 : Int32) ∨ (p &&& (2147483647 : Int32)) % (20 : Int32) = (7 : Int32) ∨ (p &&& (2147483647 : Int32)) % (20 : Int32) = (8 : Int32) ∨ (p &&& (2147483647 : Int32)) % (20 : Int32) = (9 : Int32) ∨ (p &&& (2147483647 : Int32)) % (20 : Int32) = (10 : Int32) ∨ (p &&& (2147483647 : Int32)) % (20 : Int32) = (11 : Int32) ∨ (p &&& (2147483647 : Int32)) % (20 : Int32) = (12 : Int32) ∨ (p &&& (2147483647 : Int32)) % (20 : Int32) = (13 : Int32) ∨ (p &&& (2147483647 : Int32)) % (20 : Int32) = (14 : Int32) ∨ (p &&& (2147483647 : Int32)) % (20 : Int32) = (15 : Int32) ∨ (p &&& (2147483647 : Int32)) % (20 : Int32) = (16 : Int32) ∨ (p &&& (2147483647 : Int32)) % (20 : Int32) = (17 : Int32) ∨ (p &&& (2147483647 : Int32)) % (20 : Int32) = (18 : Int32) ∨ (p &&& (2147483647 : Int32)) % (20 : Int32) = (19 : Int32) := by
  have h1 := c_and p (2147483647 : Int32) (by decide)
  have h2 := (c_irem (p &&& (2147483647 : Int32)) (20 : Int32) 20 rfl).1 h1.1
  generalize (p &&& (2147483647 : Int32)) % (20 : Int32) = r at h2 ⊢
  rcases (by omega : r.toInt = 0 ∨ r.toInt = 1 ∨ r.toInt = 2 ∨ r.toInt = 3 ∨ r.toInt = 4 ∨ r.toInt = 5 ∨ r.toInt = 6 ∨ r.toInt = 7 ∨ r.toInt = 8 ∨ r.toInt = 9 ∨ r.toInt = 10 ∨ r.toInt = 11 ∨ r.toInt = 12 ∨ r.toInt = 13 ∨ r.toInt = 14 ∨ r.toInt = 15 ∨ r.toInt = 16 ∨ r.toInt = 17 ∨ r.toInt = 18 ∨ r.toInt = 19) with h | h | h | h | h | h | h | h | h | h | h | h | h | h | h | h | h | h | h | h
  · exact Or.inl (own_pick h)
  · exact Or.inr (Or.inl (own_pick h))
  · exact Or.inr (Or.inr (Or.inl (own_pick h)))
  · exact Or.inr (Or.inr (Or.inr (Or.inl (own_pick h))))
  · exact Or.inr (Or.inr (Or.inr (Or.inr (Or.inl (own_pick h)))))
  · exact Or.inr (Or.inr (Or.inr (Or.inr (Or.inr (Or.inl (own_pick h))))))
  · exact Or.inr (Or.inr (Or.inr (Or.inr (Or.inr (Or.inr (Or.inl (own_pick h)))))))
  · exact Or.inr (Or.inr (Or.inr (Or.inr (Or.inr (Or.inr (Or.inr (Or.inl (own_pick h))))))))
  · exact Or.inr (Or.inr (Or.inr (Or.inr (Or.inr (Or.inr (Or.inr (Or.inr (Or.inl (own_pick h)))))))))
  · exact Or.inr (Or.inr (Or.inr (Or.inr (Or.inr (Or.inr (Or.inr (Or.inr (Or.inr (Or.inl (own_pick h))))))))))
  · exact Or.inr (Or.inr (Or.inr (Or.inr (Or.inr (Or.inr (Or.inr (Or.inr (Or.inr (Or.inr (Or.inl (own_pick h)))))))))))
  · exact Or.inr (Or.inr (Or.inr (Or.inr (Or.inr (Or.inr (Or.inr (Or.inr (Or.inr (Or.inr (Or.inr (Or.inl (own_pick h))))))))))))
  · exact Or.inr (Or.inr (Or.inr (Or.inr (Or.inr (Or.inr (Or.inr (Or.inr (Or.inr (Or.inr (Or.inr (Or.inr (Or.inl (own_pick h)))))))))))))
  · exact Or.inr (Or.inr (Or.inr (Or.inr (Or.inr (Or.inr (Or.inr (Or.inr (Or.inr (Or.inr (Or.inr (Or.inr (Or.inr (Or.inl (own_pick h))))))))))))))
  · exact Or.inr (Or.inr (Or.inr (Or.inr (Or.inr (Or.inr (Or.inr (Or.inr (Or.inr (Or.inr (Or.inr (Or.inr (Or.inr (Or.inr (Or.inl (own_pick h)))))))))))))))
  · exact Or.inr (Or.inr (Or.inr (Or.inr (Or.inr (Or.inr (Or.inr (Or.inr (Or.inr (Or.inr (Or.inr (Or.inr (Or.inr (Or.inr (Or.inr (Or.inl (own_pick h))))))))))))))))
  · exact Or.inr (Or.inr (Or.inr (Or.inr (Or.inr (Or.inr (Or.inr (Or.inr (Or.inr (Or.inr (Or.inr (Or.inr (Or.inr (Or.inr (Or.inr (Or.inr (Or.inl (own_pick h)))))))))))))))))
  · exact Or.inr (Or.inr (Or.inr (Or.inr (Or.inr (Or.inr (Or.inr (Or.inr (Or.inr (Or.inr (Or.inr (Or.inr (Or.inr (Or.inr (Or.inr (Or.inr (Or.inr (Or.inl (own_pick h))))))))))))))))))
  · exact Or.inr (Or.inr (Or.inr (Or.inr (Or.inr (Or.inr (Or.inr (Or.inr (Or.inr (Or.inr (Or.inr (Or.inr (Or.inr (Or.inr (Or.inr (Or.inr (Or.inr (Or.inr (Or.inl (own_pick h)))))))))))))))))))
  · exact Or.inr (Or.inr (Or.inr (Or.inr (Or.inr (Or.inr (Or.inr (Or.inr (Or.inr (Or.inr (Or.inr (Or.inr (Or.inr (Or.inr (Or.inr (Or.inr (Or.inr (Or.inr (Or.inr ((own_pick h))))))))))))))))))))
theorem d1_0 : decode method_2_code 0 = .ok (.iload_n 0, 1) := by decide +kernel
theorem d1_1 : decode method_2_code 1 = .ok (.tableswitch 167 0 18 #[91, 95, 99, 103, 107, 111, 115, 119, 123, 127, 131, 135, 139, 143, 147, 151, 155, 159, 163], 91) := by decide +kernel
theorem d1_92 : decode method_2_code 92 = .ok (.getstatic 7, 3) := by decide +kernel
theorem d1_95 : decode method_2_code 95 = .ok (.areturn, 1) := by decide +kernel
theorem ef_1_I (m : MethodId) (x0 : Int32) : entryFrame m #[(.int x0)] 1 = mkF m 0 #[.val (.int x0)] [] := by first | (simp [entryFrame, mkF, argsToLocals, Value.category]; done) | rfl
theorem pn_com_example_rootward_rootward_jdbc_OperatorTestsTruthPinLaw : plainName "com/example/rootward/rootward/jdbc/OperatorTestsTruthPinLaw" = true := by first | (simp [plainName, overriddenIn]; done) | decide +kernel
set_option maxRecDepth 65536 in
set_option maxHeartbeats 40000000 in
theorem rm1_0 (l : Launch) (Z : State) (a0 : Array Value) (hw : ∀ d ∈ tables_1, d.before a0 Z = true) (ws : List Jvm.Cond) (w_EQUAL w_IS_TRUE w_IS_FALSE w_GREATER_THAN_OR_EQUAL w_IS_NULL w_IS_NOT_NULL w_STARTING_WITH w_NOT_BETWEEN w_GREATER_THAN w_IN w_NOT_EQUAL w_NOT_IN w_ENDING_WITH w_BETWEEN w_NOT_CONTAINING w_CONTAINING w_LIKE w_LESS_THAN_OR_EQUAL w_LESS_THAN w_NOT_LIKE : Addr) (h0 : Heap) (n0 : Nat) (PN : own_Pins Z h0 w_EQUAL w_IS_TRUE w_IS_FALSE w_GREATER_THAN_OR_EQUAL w_IS_NULL w_IS_NOT_NULL w_STARTING_WITH w_NOT_BETWEEN w_GREATER_THAN w_IN w_NOT_EQUAL w_NOT_IN w_ENDING_WITH w_BETWEEN w_NOT_CONTAINING w_CONTAINING w_LIKE w_LESS_THAN_OR_EQUAL w_LESS_THAN w_NOT_LIKE) :
    MetFree l (⟨"com/example/rootward/rootward/jdbc/OperatorTestsTruthPinLaw", "pick", "(I)Lcom/example/rootward/rootward/jdbc/Condition$Operator;"⟩ : MethodName) (head1 (Jvm.Cond.code (⟨"com/example/rootward/rootward/jdbc/OperatorTestsTruthPinLaw", "pick", "(I)Lcom/example/rootward/rootward/jdbc/Condition$Operator;"⟩ : MethodName) method_2_code 1 (some (.object "com/example/rootward/rootward/jdbc/Condition$Operator")) :: ws) ({ frames := 0, cells := 0, slots := 0, locals := 0 } : Room)) (fun a U => a = #[(.int (0 : Int32))] ∧ Z.Warmed39 U.vm ∧ U.heap = h0) (fun _ _ _ _ _ => True) (fun _ U o U' => ∃ v L, o = .returned v ∧ own_Q h0 n0 (some (.ref w_EQUAL)) v U'.heap L ∧ FrameEnd U o U' L ({ frames := 0, cells := 0, slots := 0, locals := 0 } : Room).cells ({ frames := 0, cells := 0, slots := 0, locals := 0 } : Room).slots) := by
  have S_EQUAL : Sta Z h0 "com/example/rootward/rootward/jdbc/Condition$Operator" "EQUAL" "Lcom/example/rootward/rootward/jdbc/Condition$Operator;" (.ref w_EQUAL) := PN.1
  refine MetFree.of_bodySF (plainFor_of_name pn_com_example_rootward_rootward_jdbc_OperatorTestsTruthPinLaw) hisR ?_
  intro p e s m args below meth c s₁ Bd hml0 hP hK
  obtain ⟨rfl, hZ, hh⟩ := hP
  have hx := Bd.exec
  have hby := Bd.bytes
  have hml : c.maxLocals = 1 := hml0
  have hown : s.vm.findClass "com/example/rootward/rootward/jdbc/OperatorTestsTruthPinLaw" = some m.cls := findClass_of_methodNamed Bd.named
  have X0 : Stand p l e ({ frames := 0, cells := 0, slots := 0, locals := 0 } : Room) s m #[(.int (0 : Int32))] below meth c s₁ [] 0 0 := Stand.of_body Bd
  have e0 : s₁.heap = h0 := by rw [← hh, Bd.state]; rfl
  have N0 := Fr.nil n0
  refine (?_ : own_Fin p e below _ _)
  refine own_st (fun t k => castTop (ef_1_I m (0 : Int32)) k) ?_
  show own_Fin p e below _ (s₁.setTop (mkF m 0 #[.val (.int (0 : Int32))] []))
  refine own_st (fun t k => XS.iloadN X0.here hx rfl (hb hby d1_0) rfl k) ?_
  show own_Fin p e below _ (s₁.setTop (mkF m 1 #[.val (.int (0 : Int32))] [(.int (0 : Int32))]))
  refine own_st (fun t k => XS.tswIn X0.here hx rfl (pc0 := 1) (pc' := 92) rfl (hb hby d1_1) rfl (by decide) (o := 91) (by decide) (by decide) (by decide) k) ?_
  show own_Fin p e below _ (s₁.setTop (mkF m 92 #[.val (.int (0 : Int32))] []))
  obtain ⟨T1, X1, e1, st1⟩ := getS2 X0 hx hZ hown (host := "") (Or.inl (hw _ (List.mem_of_getElem? (i := 5) rfl))) Via.refl e0 S_EQUAL (g := (mkF m 92 #[.val (.int (0 : Int32))] [])) rfl (hb hby d1_92)
  refine own_st st1 ?_
  show own_Fin p e below _ (T1.setTop (mkF m 95 #[.val (.int (0 : Int32))] [(.ref w_EQUAL)]))
  obtain ⟨fs, hr, hrun, hended, hW, hsame⟩ := X1.leave (v := some (.ref w_EQUAL)) (fun h => by rw [Bd.returns] at h; cases h)
  exact ⟨_, _, retOut X1 hx (t := (.object "com/example/rootward/rootward/jdbc/Condition$Operator")) Bd.returns rfl (Or.inr (Or.inr (Or.inr (Or.inr ⟨rfl, rfl, rfl⟩)))) (hb hby d1_95) hr, hrun, hended, _, _, rfl, ⟨rfl, N0, e1⟩, ⟨_, rfl⟩, hW, hsame.mono (by decide) (by decide)⟩
theorem pd__I_Lcom_example_rootward_rootward_jdbc_Condition_Operator_ : parseMethodDescriptor "(I)Lcom/example/rootward/rootward/jdbc/Condition$Operator;" = some ⟨[.int], some (.object "com/example/rootward/rootward/jdbc/Condition$Operator")⟩ := by decide +kernel
theorem d2_0 : decode prog_32_method_8_code 0 = .ok (.aload_n 0, 1) := by decide +kernel
theorem d2_1 : decode prog_32_method_8_code 1 = .ok (.getstatic 58, 3) := by decide +kernel
theorem d2_4 : decode prog_32_method_8_code 4 = .ok (.if_acmp .eq 10, 3) := by decide +kernel
theorem d2_7 : decode prog_32_method_8_code 7 = .ok (.aload_n 0, 1) := by decide +kernel
theorem d2_8 : decode prog_32_method_8_code 8 = .ok (.getstatic 61, 3) := by decide +kernel
theorem d2_11 : decode prog_32_method_8_code 11 = .ok (.if_acmp .ne 7, 3) := by decide +kernel
theorem d2_18 : decode prog_32_method_8_code 18 = .ok (.iconst 0, 1) := by decide +kernel
theorem d2_19 : decode prog_32_method_8_code 19 = .ok (.ireturn, 1) := by decide +kernel
theorem ef_2_R (m : MethodId) (x0 : Addr) : entryFrame m #[(.ref x0)] 1 = mkF m 0 #[.val (.ref x0)] [] := by first | (simp [entryFrame, mkF, argsToLocals, Value.category]; done) | rfl
theorem pn_com_example_rootward_rootward_jdbc_Condition_Operator : plainName "com/example/rootward/rootward/jdbc/Condition$Operator" = true := by first | (simp [plainName, overriddenIn]; done) | decide +kernel
set_option maxRecDepth 65536 in
set_option maxHeartbeats 40000000 in
theorem rm2_w_EQUAL (l : Launch) (Z : State) (a0 : Array Value) (hw : ∀ d ∈ tables_1, d.before a0 Z = true) (ws : List Jvm.Cond) (w_EQUAL w_IS_TRUE w_IS_FALSE w_GREATER_THAN_OR_EQUAL w_IS_NULL w_IS_NOT_NULL w_STARTING_WITH w_NOT_BETWEEN w_GREATER_THAN w_IN w_NOT_EQUAL w_NOT_IN w_ENDING_WITH w_BETWEEN w_NOT_CONTAINING w_CONTAINING w_LIKE w_LESS_THAN_OR_EQUAL w_LESS_THAN w_NOT_LIKE : Addr) (h0 : Heap) (n0 : Nat) (PN : own_Pins Z h0 w_EQUAL w_IS_TRUE w_IS_FALSE w_GREATER_THAN_OR_EQUAL w_IS_NULL w_IS_NOT_NULL w_STARTING_WITH w_NOT_BETWEEN w_GREATER_THAN w_IN w_NOT_EQUAL w_NOT_IN w_ENDING_WITH w_BETWEEN w_NOT_CONTAINING w_CONTAINING w_LIKE w_LESS_THAN_OR_EQUAL w_LESS_THAN w_NOT_LIKE) :
    MetFree l (⟨"com/example/rootward/rootward/jdbc/Condition$Operator", "testsTruth", "()Z"⟩ : MethodName) (head1 (Jvm.Cond.code (⟨"com/example/rootward/rootward/jdbc/Condition$Operator", "testsTruth", "()Z"⟩ : MethodName) prog_32_method_8_code 1 (some .boolean) :: ws) ({ frames := 0, cells := 0, slots := 0, locals := 0 } : Room)) (fun a U => a = #[(.ref w_EQUAL)] ∧ Z.Warmed39 U.vm ∧ U.heap = h0) (fun _ _ _ _ _ => True) (fun _ U o U' => ∃ v L, o = .returned v ∧ own_Q h0 n0 (some (.int (0 : Int32))) v U'.heap L ∧ FrameEnd U o U' L ({ frames := 0, cells := 0, slots := 0, locals := 0 } : Room).cells ({ frames := 0, cells := 0, slots := 0, locals := 0 } : Room).slots) := by
  have S_IS_TRUE : Sta Z h0 "com/example/rootward/rootward/jdbc/Condition$Operator" "IS_TRUE" "Lcom/example/rootward/rootward/jdbc/Condition$Operator;" (.ref w_IS_TRUE) := PN.2.2.1
  have S_IS_FALSE : Sta Z h0 "com/example/rootward/rootward/jdbc/Condition$Operator" "IS_FALSE" "Lcom/example/rootward/rootward/jdbc/Condition$Operator;" (.ref w_IS_FALSE) := PN.2.2.2.2.1
  have F_EQUAL_ordinal : Fld Z h0 w_EQUAL "java/lang/Enum" "ordinal" "I" (.int 0) := PN.2.2.2.2.2.2.2.2.2.2.2.2.2.2.2.2.2.2.2.2.2.2.2.2.2.2.2.2.2.2.2.2.2.2.2.2.2.2.2.2.1
  have F_IS_TRUE_ordinal : Fld Z h0 w_IS_TRUE "java/lang/Enum" "ordinal" "I" (.int 18) := PN.2.2.2.2.2.2.2.2.2.2.2.2.2.2.2.2.2.2.2.2.2.2.2.2.2.2.2.2.2.2.2.2.2.2.2.2.2.2.2.2.2.1
  have F_IS_FALSE_ordinal : Fld Z h0 w_IS_FALSE "java/lang/Enum" "ordinal" "I" (.int 19) := PN.2.2.2.2.2.2.2.2.2.2.2.2.2.2.2.2.2.2.2.2.2.2.2.2.2.2.2.2.2.2.2.2.2.2.2.2.2.2.2.2.2.2.1
  refine MetFree.of_bodySF (plainFor_of_name pn_com_example_rootward_rootward_jdbc_Condition_Operator) hisR ?_
  intro p e s m args below meth c s₁ Bd hml0 hP hK
  obtain ⟨rfl, hZ, hh⟩ := hP
  have hx := Bd.exec
  have hby := Bd.bytes
  have hml : c.maxLocals = 1 := hml0
  have hown : s.vm.findClass "com/example/rootward/rootward/jdbc/Condition$Operator" = some m.cls := findClass_of_methodNamed Bd.named
  have X0 : Stand p l e ({ frames := 0, cells := 0, slots := 0, locals := 0 } : Room) s m #[(.ref w_EQUAL)] below meth c s₁ [] 0 0 := Stand.of_body Bd
  have e0 : s₁.heap = h0 := by rw [← hh, Bd.state]; rfl
  have N0 := Fr.nil n0
  refine (?_ : own_Fin p e below _ _)
  refine own_st (fun t k => castTop (ef_2_R m w_EQUAL) k) ?_
  show own_Fin p e below _ (s₁.setTop (mkF m 0 #[.val (.ref w_EQUAL)] []))
  refine own_st (fun t k => XS.aloadN X0.here hx rfl (hb hby d2_0) rfl rfl k) ?_
  show own_Fin p e below _ (s₁.setTop (mkF m 1 #[.val (.ref w_EQUAL)] [(.ref w_EQUAL)]))
  obtain ⟨T1, X1, e1, st1⟩ := getS2 X0 hx hZ hown (host := "") (Or.inl (hw _ (List.mem_of_getElem? (i := 13) rfl))) Via.refl e0 S_IS_TRUE (g := (mkF m 1 #[.val (.ref w_EQUAL)] [(.ref w_EQUAL)])) rfl (hb hby d2_1)
  refine own_st st1 ?_
  show own_Fin p e below _ (T1.setTop (mkF m 4 #[.val (.ref w_EQUAL)] [(.ref w_IS_TRUE), (.ref w_EQUAL)]))
  refine own_st (fun t k => Jvm.RoadKit.acmp (g := (mkF m 4 #[.val (.ref w_EQUAL)] [(.ref w_IS_TRUE), (.ref w_EQUAL)])) X1 hx rfl rfl rfl (pc0 := 4) (pc' := 7) (same := false) rfl (hb hby d2_4) rfl (decide_eq_false fun q => (Fld.ne F_EQUAL_ordinal F_IS_TRUE_ordinal (by simp)) (Value.ref.inj q)) (by decide) (by decide) k) ?_
  show own_Fin p e below _ (T1.setTop (mkF m 7 #[.val (.ref w_EQUAL)] []))
  refine own_st (fun t k => XS.aloadN X1.here hx rfl (hb hby d2_7) rfl rfl k) ?_
  show own_Fin p e below _ (T1.setTop (mkF m 8 #[.val (.ref w_EQUAL)] [(.ref w_EQUAL)]))
  obtain ⟨T2, X2, e2, st2⟩ := getS2 X1 hx hZ hown (host := "") (Or.inl (hw _ (List.mem_of_getElem? (i := 15) rfl))) Via.refl e1 S_IS_FALSE (g := (mkF m 8 #[.val (.ref w_EQUAL)] [(.ref w_EQUAL)])) rfl (hb hby d2_8)
  refine own_st st2 ?_
  show own_Fin p e below _ (T2.setTop (mkF m 11 #[.val (.ref w_EQUAL)] [(.ref w_IS_FALSE), (.ref w_EQUAL)]))
  refine own_st (fun t k => Jvm.RoadKit.acmp (g := (mkF m 11 #[.val (.ref w_EQUAL)] [(.ref w_IS_FALSE), (.ref w_EQUAL)])) X2 hx rfl rfl rfl (pc0 := 11) (pc' := 18) (same := false) rfl (hb hby d2_11) rfl (decide_eq_false fun q => (Fld.ne F_EQUAL_ordinal F_IS_FALSE_ordinal (by simp)) (Value.ref.inj q)) (by decide) (by decide) k) ?_
  show own_Fin p e below _ (T2.setTop (mkF m 18 #[.val (.ref w_EQUAL)] []))
  refine own_st (fun t k => XS.iconst X2.here hx rfl (hb hby d2_18) k) ?_
  show own_Fin p e below _ (T2.setTop (mkF m 19 #[.val (.ref w_EQUAL)] [(.int (0 : Int32))]))
  obtain ⟨fs, hr, hrun, hended, hW, hsame⟩ := X2.leave (v := some (.int (0 : Int32))) (fun h => by rw [Bd.returns] at h; cases h)
  exact ⟨_, _, retN X2 hx (t := .boolean) Bd.returns (by simp) (hb hby d2_19) hr, hrun, hended, _, _, rfl, ⟨rfl, N0, e2⟩, ⟨_, rfl⟩, hW, hsame.mono (by decide) (by decide)⟩
theorem pd___Z : parseMethodDescriptor "()Z" = some ⟨[], some .boolean⟩ := by decide +kernel
theorem ef_0_I (m : MethodId) (x0 : Int32) : entryFrame m #[(.int x0)] maxLocals = mkF m 0 #[.val (.int x0), .unset, .unset, .unset, .unset] [] := by first | (simp [entryFrame, mkF, argsToLocals, Value.category, maxLocals]; done) | rfl
set_option maxRecDepth 65536 in
set_option maxHeartbeats 40000000 in
theorem rm0_c0 (l : Launch) (Z : State) (a0 : Array Value) (hw : ∀ d ∈ tables_1, d.before a0 Z = true) (ws : List Jvm.Cond) (w_EQUAL w_IS_TRUE w_IS_FALSE w_GREATER_THAN_OR_EQUAL w_IS_NULL w_IS_NOT_NULL w_STARTING_WITH w_NOT_BETWEEN w_GREATER_THAN w_IN w_NOT_EQUAL w_NOT_IN w_ENDING_WITH w_BETWEEN w_NOT_CONTAINING w_CONTAINING w_LIKE w_LESS_THAN_OR_EQUAL w_LESS_THAN w_NOT_LIKE : Addr) (p0 : Int32) (h0 : Heap) (n0 : Nat) (PN : own_Pins Z h0 w_EQUAL w_IS_TRUE w_IS_FALSE w_GREATER_THAN_OR_EQUAL w_IS_NULL w_IS_NOT_NULL w_STARTING_WITH w_NOT_BETWEEN w_GREATER_THAN w_IN w_NOT_EQUAL w_NOT_IN w_ENDING_WITH w_BETWEEN w_NOT_CONTAINING w_CONTAINING w_LIKE w_LESS_THAN_OR_EQUAL w_LESS_THAN w_NOT_LIKE) (q0 : ((p0 &&& (2147483647 : Int32)) % (20 : Int32)) = (0 : Int32)) :
    MetFree l x (head1 (Jvm.Cond.code x code maxLocals ret :: ws) room_1) (fun a U => a = #[(.int p0)] ∧ Z.Warmed39 U.vm ∧ U.heap = h0) (fun _ _ _ _ _ => True) (fun _ U o U' => ∃ v L, o = .returned v ∧ own_Q h0 n0 (some (.int (1 : Int32))) v U'.heap L ∧ FrameEnd U o U' L room_1.cells room_1.slots) := by
  have E_EQUAL : Exa Z h0 w_EQUAL "com/example/rootward/rootward/jdbc/Condition$Operator" := PN.2.1
  refine MetFree.of_bodySF (plainFor_of_name pn_com_example_rootward_rootward_jdbc_OperatorTestsTruthPinLaw) hisR ?_
  intro p e s m args below meth c s₁ Bd hml0 hP hK
  obtain ⟨rfl, hZ, hh⟩ := hP
  have hx := Bd.exec
  have hby := Bd.bytes
  have hml : c.maxLocals = 5 := hml0
  have hown : s.vm.findClass "com/example/rootward/rootward/jdbc/OperatorTestsTruthPinLaw" = some m.cls := findClass_of_methodNamed Bd.named
  have X0 : Stand p l e room_1 s m #[(.int p0)] below meth c s₁ [] 0 0 := Stand.of_body Bd
  have e0 : s₁.heap = h0 := by rw [← hh, Bd.state]; rfl
  have N0 := Fr.nil n0
  refine (?_ : own_Fin p e below _ _)
  refine own_st (fun t k => castTop (ef_0_I m p0) k) ?_
  show own_Fin p e below _ (s₁.setTop (mkF m 0 #[.val (.int p0), .unset, .unset, .unset, .unset] []))
  refine own_st (fun t k => XS.iloadN X0.here hx rfl (hb hby at_0) rfl k) ?_
  show own_Fin p e below _ (s₁.setTop (mkF m 1 #[.val (.int p0), .unset, .unset, .unset, .unset] [(.int p0)]))
  refine own_st (fun t k => X0.ldcI hx hown (mvT hZ (hw _ (List.mem_of_getElem? (i := 0) rfl))) rfl (hb hby at_1) k) ?_
  show own_Fin p e below _ (s₁.setTop (mkF m 3 #[.val (.int p0), .unset, .unset, .unset, .unset] [(.int (2147483647 : Int32)), (.int p0)]))
  refine own_st (fun t k => XS.iand X0.here hx rfl (hb hby at_3) rfl k) ?_
  show own_Fin p e below _ (s₁.setTop (mkF m 4 #[.val (.int p0), .unset, .unset, .unset, .unset] [(.int (p0 &&& (2147483647 : Int32)))]))
  refine own_st (fun t k => XS.bipush X0.here hx rfl (hb hby at_4) k) ?_
  show own_Fin p e below _ (s₁.setTop (mkF m 6 #[.val (.int p0), .unset, .unset, .unset, .unset] [(.int (20 : Int32)), (.int (p0 &&& (2147483647 : Int32)))]))
  refine own_st (fun t k => iremM X0 hx rfl (hb hby at_6) rfl (by decide) k) ?_
  show own_Fin p e below _ (s₁.setTop (mkF m 7 #[.val (.int p0), .unset, .unset, .unset, .unset] [(.int ((p0 &&& (2147483647 : Int32)) % (20 : Int32)))]))
  rw [q0]
  show own_Fin p e below _ (s₁.setTop (mkF m 7 #[.val (.int p0), .unset, .unset, .unset, .unset] [(.int (0 : Int32))]))
  refine own_st (fun t k => XS.istoreN X0.here hx rfl (hb hby at_7) rfl (l' := #[.val (.int p0), .val (.int (0 : Int32)), .unset, .unset, .unset]) rfl k) ?_
  show own_Fin p e below _ (s₁.setTop (mkF m 8 #[.val (.int p0), .val (.int (0 : Int32)), .unset, .unset, .unset] []))
  refine own_st (fun t k => XS.iloadN X0.here hx rfl (hb hby at_8) rfl k) ?_
  show own_Fin p e below _ (s₁.setTop (mkF m 9 #[.val (.int p0), .val (.int (0 : Int32)), .unset, .unset, .unset] [(.int (0 : Int32))]))
  obtain ⟨_, _, ⟨T1, L1, k1, n1⟩, -, X1, ⟨Lc1, hQ1, l1, y1, z1⟩, st1⟩ := Jvm.LawKit.callS X0 hx (y := (⟨"com/example/rootward/rootward/jdbc/OperatorTestsTruthPinLaw", "pick", "(I)Lcom/example/rootward/rootward/jdbc/Condition$Operator;"⟩ : MethodName)) hown (mvT hZ (hw _ (List.mem_of_getElem? (i := 1) rfl))) (mvT hZ (hw _ (List.mem_of_getElem? (i := 2) rfl))) (mvT hZ (hw _ (List.mem_of_getElem? (i := 3) rfl))) (mvT hZ (hw _ (List.mem_of_getElem? (i := 4) rfl))) (by decide) (backOf (W := 0) (rm1_0 l Z a0 hw [] w_EQUAL w_IS_TRUE w_IS_FALSE w_GREATER_THAN_OR_EQUAL w_IS_NULL w_IS_NOT_NULL w_STARTING_WITH w_NOT_BETWEEN w_GREATER_THAN w_IN w_NOT_EQUAL w_NOT_IN w_ENDING_WITH w_BETWEEN w_NOT_CONTAINING w_CONTAINING w_LIKE w_LESS_THAN_OR_EQUAL w_LESS_THAN w_NOT_LIKE h0 n0 PN) hZ (hw _ (List.mem_of_getElem? (i := 4) rfl)) (hw _ (List.mem_of_getElem? (i := 3) rfl)) (by decide) (by decide)) (g := (mkF m 9 #[.val (.int p0), .val (.int (0 : Int32)), .unset, .unset, .unset] [(.int (0 : Int32))])) rfl (by rw [hml]; rfl) (argsL := [(.int (0 : Int32))]) (rest := []) (lenOf pd__I_Lcom_example_rootward_rootward_jdbc_Condition_Operator_ rfl) rfl (by show 2 * 0 + _ ≤ _; exact Nat.le_of_eq rfl) (hb hby at_9) (fun _ _ => ⟨rfl, e0, (by decide : 0 + 0 ≤ _), (by decide : 0 + 0 ≤ _)⟩)
  dsimp only [Pt.U, Pt.locs, Pt.cells, Pt.slots] at X1 l1 y1 z1 st1 hQ1
  subst l1 y1 z1
  obtain ⟨rfl, N1q, e1⟩ := hQ1
  have N1 := Fr.app N0 N1q
  refine own_st st1 ?_
  show own_Fin p e below _ (T1.setTop (mkF m 12 #[.val (.int p0), .val (.int (0 : Int32)), .unset, .unset, .unset] [(.ref w_EQUAL)]))
  refine own_st (fun t k => XS.astoreN X1.here hx rfl (hb hby at_12) rfl rfl (l' := #[.val (.int p0), .val (.int (0 : Int32)), .val (.ref w_EQUAL), .unset, .unset]) rfl k) ?_
  show own_Fin p e below _ (T1.setTop (mkF m 13 #[.val (.int p0), .val (.int (0 : Int32)), .val (.ref w_EQUAL), .unset, .unset] []))
  refine own_st (fun t k => XS.iloadN X1.here hx rfl (hb hby at_13) rfl k) ?_
  show own_Fin p e below _ (T1.setTop (mkF m 14 #[.val (.int p0), .val (.int (0 : Int32)), .val (.ref w_EQUAL), .unset, .unset] [(.int (0 : Int32))]))
  refine own_st (fun t k => XS.bipush X1.here hx rfl (hb hby at_14) k) ?_
  show own_Fin p e below _ (T1.setTop (mkF m 16 #[.val (.int p0), .val (.int (0 : Int32)), .val (.ref w_EQUAL), .unset, .unset] [(.int (18 : Int32)), (.int (0 : Int32))]))
  refine own_st (fun t k => XS.icmpNo X1.here hx rfl (hb hby at_16) rfl (by decide) k) ?_
  show own_Fin p e below _ (T1.setTop (mkF m 19 #[.val (.int p0), .val (.int (0 : Int32)), .val (.ref w_EQUAL), .unset, .unset] []))
  refine own_st (fun t k => XS.iloadN X1.here hx rfl (hb hby at_19) rfl k) ?_
  show own_Fin p e below _ (T1.setTop (mkF m 20 #[.val (.int p0), .val (.int (0 : Int32)), .val (.ref w_EQUAL), .unset, .unset] [(.int (0 : Int32))]))
  refine own_st (fun t k => XS.bipush X1.here hx rfl (hb hby at_20) k) ?_
  show own_Fin p e below _ (T1.setTop (mkF m 22 #[.val (.int p0), .val (.int (0 : Int32)), .val (.ref w_EQUAL), .unset, .unset] [(.int (19 : Int32)), (.int (0 : Int32))]))
  refine own_st (fun t k => XS.icmpYes X1.here hx rfl (pc0 := 22) (pc' := 29) rfl (hb hby at_22) rfl (by decide) (by decide) (by decide) k) ?_
  show own_Fin p e below _ (T1.setTop (mkF m 29 #[.val (.int p0), .val (.int (0 : Int32)), .val (.ref w_EQUAL), .unset, .unset] []))
  refine own_st (fun t k => XS.iconst X1.here hx rfl (hb hby at_29) k) ?_
  show own_Fin p e below _ (T1.setTop (mkF m 30 #[.val (.int p0), .val (.int (0 : Int32)), .val (.ref w_EQUAL), .unset, .unset] [(.int (0 : Int32))]))
  refine own_st (fun t k => XS.istoreN X1.here hx rfl (hb hby at_30) rfl (l' := #[.val (.int p0), .val (.int (0 : Int32)), .val (.ref w_EQUAL), .val (.int (0 : Int32)), .unset]) rfl k) ?_
  show own_Fin p e below _ (T1.setTop (mkF m 31 #[.val (.int p0), .val (.int (0 : Int32)), .val (.ref w_EQUAL), .val (.int (0 : Int32)), .unset] []))
  refine own_st (fun t k => XS.aloadN X1.here hx rfl (hb hby at_31) rfl rfl k) ?_
  show own_Fin p e below _ (T1.setTop (mkF m 32 #[.val (.int p0), .val (.int (0 : Int32)), .val (.ref w_EQUAL), .val (.int (0 : Int32)), .unset] [(.ref w_EQUAL)]))
  obtain ⟨cq2, kq2, q2a, q2b, q2c⟩ := isOf hZ e1 E_EQUAL
  obtain ⟨_, _, ⟨T2, L2, k2, n2⟩, -, X2, ⟨Lc2, hQ2, l2, y2, z2⟩, st2⟩ := X1.virtualBack hx (y := (⟨"com/example/rootward/rootward/jdbc/Condition$Operator", "testsTruth", "()Z"⟩ : MethodName)) (z := (⟨"com/example/rootward/rootward/jdbc/Condition$Operator", "testsTruth", "()Z"⟩ : MethodName)) hown (mvT hZ (hw _ (List.mem_of_getElem? (i := 8) rfl))) (mvT hZ (hw _ (List.mem_of_getElem? (i := 9) rfl))) (notFace_of_selects (args := #[]) (mvT hZ (hw _ (List.mem_of_getElem? (i := 11) rfl)))) (mvT hZ (hw _ (List.mem_of_getElem? (i := 11) rfl))) (mvT hZ (hw _ (List.mem_of_getElem? (i := 10) rfl))) (by decide) (backOf (W := 0) (rm2_w_EQUAL l Z a0 hw [] w_EQUAL w_IS_TRUE w_IS_FALSE w_GREATER_THAN_OR_EQUAL w_IS_NULL w_IS_NOT_NULL w_STARTING_WITH w_NOT_BETWEEN w_GREATER_THAN w_IN w_NOT_EQUAL w_NOT_IN w_ENDING_WITH w_BETWEEN w_NOT_CONTAINING w_CONTAINING w_LIKE w_LESS_THAN_OR_EQUAL w_LESS_THAN w_NOT_LIKE h0 n0 PN) hZ (hw _ (List.mem_of_getElem? (i := 12) rfl)) (hw _ (List.mem_of_getElem? (i := 6) rfl)) (by decide) (by decide)) q2a q2c (g := (mkF m 32 #[.val (.int p0), .val (.int (0 : Int32)), .val (.ref w_EQUAL), .val (.int (0 : Int32)), .unset] [(.ref w_EQUAL)])) rfl (by rw [hml]; rfl) (Steps.refl _) (argsL := []) (rest := []) (lenOf pd___Z rfl) rfl (by show 2 * 0 + _ ≤ _; exact Nat.le_of_eq rfl) (hb hby at_32) (fun _ _ => ⟨rfl, e1, (by decide : 0 + 0 ≤ _), (by decide : 0 + 0 ≤ _)⟩)
  dsimp only [Pt.U, Pt.locs, Pt.cells, Pt.slots] at X2 l2 y2 z2 st2 hQ2
  subst l2 y2 z2
  obtain ⟨rfl, N2q, e2⟩ := hQ2
  have N2 := Fr.app N1 N2q
  refine own_tr st2 ?_
  show own_Fin p e below _ (T2.setTop (mkF m 35 #[.val (.int p0), .val (.int (0 : Int32)), .val (.ref w_EQUAL), .val (.int (0 : Int32)), .unset] [(.int (0 : Int32))]))
  refine own_st (fun t k => XS.istore X2.here hx rfl (hb hby at_35) rfl (l' := #[.val (.int p0), .val (.int (0 : Int32)), .val (.ref w_EQUAL), .val (.int (0 : Int32)), .val (.int (0 : Int32))]) rfl k) ?_
  show own_Fin p e below _ (T2.setTop (mkF m 37 #[.val (.int p0), .val (.int (0 : Int32)), .val (.ref w_EQUAL), .val (.int (0 : Int32)), .val (.int (0 : Int32))] []))
  refine own_st (fun t k => XS.iload X2.here hx rfl (hb hby at_37) rfl k) ?_
  show own_Fin p e below _ (T2.setTop (mkF m 39 #[.val (.int p0), .val (.int (0 : Int32)), .val (.ref w_EQUAL), .val (.int (0 : Int32)), .val (.int (0 : Int32))] [(.int (0 : Int32))]))
  refine own_st (fun t k => XS.iloadN X2.here hx rfl (hb hby at_39) rfl k) ?_
  show own_Fin p e below _ (T2.setTop (mkF m 40 #[.val (.int p0), .val (.int (0 : Int32)), .val (.ref w_EQUAL), .val (.int (0 : Int32)), .val (.int (0 : Int32))] [(.int (0 : Int32)), (.int (0 : Int32))]))
  refine own_st (fun t k => XS.icmpYes X2.here hx rfl (pc0 := 40) (pc' := 45) rfl (hb hby at_40) rfl (by decide) (by decide) (by decide) k) ?_
  show own_Fin p e below _ (T2.setTop (mkF m 45 #[.val (.int p0), .val (.int (0 : Int32)), .val (.ref w_EQUAL), .val (.int (0 : Int32)), .val (.int (0 : Int32))] []))
  refine own_st (fun t k => XS.iload X2.here hx rfl (hb hby at_45) rfl k) ?_
  show own_Fin p e below _ (T2.setTop (mkF m 47 #[.val (.int p0), .val (.int (0 : Int32)), .val (.ref w_EQUAL), .val (.int (0 : Int32)), .val (.int (0 : Int32))] [(.int (0 : Int32))]))
  refine own_st (fun t k => XS.ifYes X2.here hx rfl (pc0 := 47) (pc' := 73) rfl (hb hby at_47) rfl (by decide) (by decide) (by decide) k) ?_
  show own_Fin p e below _ (T2.setTop (mkF m 73 #[.val (.int p0), .val (.int (0 : Int32)), .val (.ref w_EQUAL), .val (.int (0 : Int32)), .val (.int (0 : Int32))] []))
  refine own_st (fun t k => XS.iconst X2.here hx rfl (hb hby at_73) k) ?_
  show own_Fin p e below _ (T2.setTop (mkF m 74 #[.val (.int p0), .val (.int (0 : Int32)), .val (.ref w_EQUAL), .val (.int (0 : Int32)), .val (.int (0 : Int32))] [(.int (1 : Int32))]))
  obtain ⟨fs, hr, hrun, hended, hW, hsame⟩ := X2.leave (v := some (.int (1 : Int32))) (fun h => by rw [Bd.returns] at h; cases h)
  exact ⟨_, _, retN X2 hx (t := .boolean) Bd.returns (by simp) (hb hby at_74) hr, hrun, hended, _, _, rfl, ⟨rfl, N2, e2⟩, ⟨_, rfl⟩, hW, hsame.mono (by decide) (by decide)⟩
theorem d1_96 : decode method_2_code 96 = .ok (.getstatic 13, 3) := by decide +kernel
theorem d1_99 : decode method_2_code 99 = .ok (.areturn, 1) := by decide +kernel
set_option maxRecDepth 65536 in
set_option maxHeartbeats 40000000 in
theorem rm1_1 (l : Launch) (Z : State) (a0 : Array Value) (hw : ∀ d ∈ tables_1, d.before a0 Z = true) (ws : List Jvm.Cond) (w_EQUAL w_IS_TRUE w_IS_FALSE w_GREATER_THAN_OR_EQUAL w_IS_NULL w_IS_NOT_NULL w_STARTING_WITH w_NOT_BETWEEN w_GREATER_THAN w_IN w_NOT_EQUAL w_NOT_IN w_ENDING_WITH w_BETWEEN w_NOT_CONTAINING w_CONTAINING w_LIKE w_LESS_THAN_OR_EQUAL w_LESS_THAN w_NOT_LIKE : Addr) (h0 : Heap) (n0 : Nat) (PN : own_Pins Z h0 w_EQUAL w_IS_TRUE w_IS_FALSE w_GREATER_THAN_OR_EQUAL w_IS_NULL w_IS_NOT_NULL w_STARTING_WITH w_NOT_BETWEEN w_GREATER_THAN w_IN w_NOT_EQUAL w_NOT_IN w_ENDING_WITH w_BETWEEN w_NOT_CONTAINING w_CONTAINING w_LIKE w_LESS_THAN_OR_EQUAL w_LESS_THAN w_NOT_LIKE) :
    MetFree l (⟨"com/example/rootward/rootward/jdbc/OperatorTestsTruthPinLaw", "pick", "(I)Lcom/example/rootward/rootward/jdbc/Condition$Operator;"⟩ : MethodName) (head1 (Jvm.Cond.code (⟨"com/example/rootward/rootward/jdbc/OperatorTestsTruthPinLaw", "pick", "(I)Lcom/example/rootward/rootward/jdbc/Condition$Operator;"⟩ : MethodName) method_2_code 1 (some (.object "com/example/rootward/rootward/jdbc/Condition$Operator")) :: ws) ({ frames := 0, cells := 0, slots := 0, locals := 0 } : Room)) (fun a U => a = #[(.int (1 : Int32))] ∧ Z.Warmed39 U.vm ∧ U.heap = h0) (fun _ _ _ _ _ => True) (fun _ U o U' => ∃ v L, o = .returned v ∧ own_Q h0 n0 (some (.ref w_NOT_EQUAL)) v U'.heap L ∧ FrameEnd U o U' L ({ frames := 0, cells := 0, slots := 0, locals := 0 } : Room).cells ({ frames := 0, cells := 0, slots := 0, locals := 0 } : Room).slots) := by
  have S_NOT_EQUAL : Sta Z h0 "com/example/rootward/rootward/jdbc/Condition$Operator" "NOT_EQUAL" "Lcom/example/rootward/rootward/jdbc/Condition$Operator;" (.ref w_NOT_EQUAL) := PN.2.2.2.2.2.2.2.2.2.2.2.2.2.2.2.2.2.2.2.2.1
  refine MetFree.of_bodySF (plainFor_of_name pn_com_example_rootward_rootward_jdbc_OperatorTestsTruthPinLaw) hisR ?_
  intro p e s m args below meth c s₁ Bd hml0 hP hK
  obtain ⟨rfl, hZ, hh⟩ := hP
  have hx := Bd.exec
  have hby := Bd.bytes
  have hml : c.maxLocals = 1 := hml0
  have hown : s.vm.findClass "com/example/rootward/rootward/jdbc/OperatorTestsTruthPinLaw" = some m.cls := findClass_of_methodNamed Bd.named
  have X0 : Stand p l e ({ frames := 0, cells := 0, slots := 0, locals := 0 } : Room) s m #[(.int (1 : Int32))] below meth c s₁ [] 0 0 := Stand.of_body Bd
  have e0 : s₁.heap = h0 := by rw [← hh, Bd.state]; rfl
  have N0 := Fr.nil n0
  refine (?_ : own_Fin p e below _ _)
  refine own_st (fun t k => castTop (ef_1_I m (1 : Int32)) k) ?_
  show own_Fin p e below _ (s₁.setTop (mkF m 0 #[.val (.int (1 : Int32))] []))
  refine own_st (fun t k => XS.iloadN X0.here hx rfl (hb hby d1_0) rfl k) ?_
  show own_Fin p e below _ (s₁.setTop (mkF m 1 #[.val (.int (1 : Int32))] [(.int (1 : Int32))]))
  refine own_st (fun t k => XS.tswIn X0.here hx rfl (pc0 := 1) (pc' := 96) rfl (hb hby d1_1) rfl (by decide) (o := 95) (by decide) (by decide) (by decide) k) ?_
  show own_Fin p e below _ (s₁.setTop (mkF m 96 #[.val (.int (1 : Int32))] []))
  obtain ⟨T1, X1, e1, st1⟩ := getS2 X0 hx hZ hown (host := "") (Or.inl (hw _ (List.mem_of_getElem? (i := 31) rfl))) Via.refl e0 S_NOT_EQUAL (g := (mkF m 96 #[.val (.int (1 : Int32))] [])) rfl (hb hby d1_96)
  refine own_st st1 ?_
  show own_Fin p e below _ (T1.setTop (mkF m 99 #[.val (.int (1 : Int32))] [(.ref w_NOT_EQUAL)]))
  obtain ⟨fs, hr, hrun, hended, hW, hsame⟩ := X1.leave (v := some (.ref w_NOT_EQUAL)) (fun h => by rw [Bd.returns] at h; cases h)
  exact ⟨_, _, retOut X1 hx (t := (.object "com/example/rootward/rootward/jdbc/Condition$Operator")) Bd.returns rfl (Or.inr (Or.inr (Or.inr (Or.inr ⟨rfl, rfl, rfl⟩)))) (hb hby d1_99) hr, hrun, hended, _, _, rfl, ⟨rfl, N0, e1⟩, ⟨_, rfl⟩, hW, hsame.mono (by decide) (by decide)⟩
set_option maxRecDepth 65536 in
set_option maxHeartbeats 40000000 in
theorem rm2_w_NOT_EQUAL (l : Launch) (Z : State) (a0 : Array Value) (hw : ∀ d ∈ tables_1, d.before a0 Z = true) (ws : List Jvm.Cond) (w_EQUAL w_IS_TRUE w_IS_FALSE w_GREATER_THAN_OR_EQUAL w_IS_NULL w_IS_NOT_NULL w_STARTING_WITH w_NOT_BETWEEN w_GREATER_THAN w_IN w_NOT_EQUAL w_NOT_IN w_ENDING_WITH w_BETWEEN w_NOT_CONTAINING w_CONTAINING w_LIKE w_LESS_THAN_OR_EQUAL w_LESS_THAN w_NOT_LIKE : Addr) (h0 : Heap) (n0 : Nat) (PN : own_Pins Z h0 w_EQUAL w_IS_TRUE w_IS_FALSE w_GREATER_THAN_OR_EQUAL w_IS_NULL w_IS_NOT_NULL w_STARTING_WITH w_NOT_BETWEEN w_GREATER_THAN w_IN w_NOT_EQUAL w_NOT_IN w_ENDING_WITH w_BETWEEN w_NOT_CONTAINING w_CONTAINING w_LIKE w_LESS_THAN_OR_EQUAL w_LESS_THAN w_NOT_LIKE) :
    MetFree l (⟨"com/example/rootward/rootward/jdbc/Condition$Operator", "testsTruth", "()Z"⟩ : MethodName) (head1 (Jvm.Cond.code (⟨"com/example/rootward/rootward/jdbc/Condition$Operator", "testsTruth", "()Z"⟩ : MethodName) prog_32_method_8_code 1 (some .boolean) :: ws) ({ frames := 0, cells := 0, slots := 0, locals := 0 } : Room)) (fun a U => a = #[(.ref w_NOT_EQUAL)] ∧ Z.Warmed39 U.vm ∧ U.heap = h0) (fun _ _ _ _ _ => True) (fun _ U o U' => ∃ v L, o = .returned v ∧ own_Q h0 n0 (some (.int (0 : Int32))) v U'.heap L ∧ FrameEnd U o U' L ({ frames := 0, cells := 0, slots := 0, locals := 0 } : Room).cells ({ frames := 0, cells := 0, slots := 0, locals := 0 } : Room).slots) := by
  have S_IS_TRUE : Sta Z h0 "com/example/rootward/rootward/jdbc/Condition$Operator" "IS_TRUE" "Lcom/example/rootward/rootward/jdbc/Condition$Operator;" (.ref w_IS_TRUE) := PN.2.2.1
  have S_IS_FALSE : Sta Z h0 "com/example/rootward/rootward/jdbc/Condition$Operator" "IS_FALSE" "Lcom/example/rootward/rootward/jdbc/Condition$Operator;" (.ref w_IS_FALSE) := PN.2.2.2.2.1
  have F_IS_TRUE_ordinal : Fld Z h0 w_IS_TRUE "java/lang/Enum" "ordinal" "I" (.int 18) := PN.2.2.2.2.2.2.2.2.2.2.2.2.2.2.2.2.2.2.2.2.2.2.2.2.2.2.2.2.2.2.2.2.2.2.2.2.2.2.2.2.2.1
  have F_IS_FALSE_ordinal : Fld Z h0 w_IS_FALSE "java/lang/Enum" "ordinal" "I" (.int 19) := PN.2.2.2.2.2.2.2.2.2.2.2.2.2.2.2.2.2.2.2.2.2.2.2.2.2.2.2.2.2.2.2.2.2.2.2.2.2.2.2.2.2.2.1
  have F_NOT_EQUAL_ordinal : Fld Z h0 w_NOT_EQUAL "java/lang/Enum" "ordinal" "I" (.int 1) := PN.2.2.2.2.2.2.2.2.2.2.2.2.2.2.2.2.2.2.2.2.2.2.2.2.2.2.2.2.2.2.2.2.2.2.2.2.2.2.2.2.2.2.2.2.2.2.2.2.2.2.1
  refine MetFree.of_bodySF (plainFor_of_name pn_com_example_rootward_rootward_jdbc_Condition_Operator) hisR ?_
  intro p e s m args below meth c s₁ Bd hml0 hP hK
  obtain ⟨rfl, hZ, hh⟩ := hP
  have hx := Bd.exec
  have hby := Bd.bytes
  have hml : c.maxLocals = 1 := hml0
  have hown : s.vm.findClass "com/example/rootward/rootward/jdbc/Condition$Operator" = some m.cls := findClass_of_methodNamed Bd.named
  have X0 : Stand p l e ({ frames := 0, cells := 0, slots := 0, locals := 0 } : Room) s m #[(.ref w_NOT_EQUAL)] below meth c s₁ [] 0 0 := Stand.of_body Bd
  have e0 : s₁.heap = h0 := by rw [← hh, Bd.state]; rfl
  have N0 := Fr.nil n0
  refine (?_ : own_Fin p e below _ _)
  refine own_st (fun t k => castTop (ef_2_R m w_NOT_EQUAL) k) ?_
  show own_Fin p e below _ (s₁.setTop (mkF m 0 #[.val (.ref w_NOT_EQUAL)] []))
  refine own_st (fun t k => XS.aloadN X0.here hx rfl (hb hby d2_0) rfl rfl k) ?_
  show own_Fin p e below _ (s₁.setTop (mkF m 1 #[.val (.ref w_NOT_EQUAL)] [(.ref w_NOT_EQUAL)]))
  obtain ⟨T1, X1, e1, st1⟩ := getS2 X0 hx hZ hown (host := "") (Or.inl (hw _ (List.mem_of_getElem? (i := 13) rfl))) Via.refl e0 S_IS_TRUE (g := (mkF m 1 #[.val (.ref w_NOT_EQUAL)] [(.ref w_NOT_EQUAL)])) rfl (hb hby d2_1)
  refine own_st st1 ?_
  show own_Fin p e below _ (T1.setTop (mkF m 4 #[.val (.ref w_NOT_EQUAL)] [(.ref w_IS_TRUE), (.ref w_NOT_EQUAL)]))
  refine own_st (fun t k => Jvm.RoadKit.acmp (g := (mkF m 4 #[.val (.ref w_NOT_EQUAL)] [(.ref w_IS_TRUE), (.ref w_NOT_EQUAL)])) X1 hx rfl rfl rfl (pc0 := 4) (pc' := 7) (same := false) rfl (hb hby d2_4) rfl (decide_eq_false fun q => (Fld.ne F_NOT_EQUAL_ordinal F_IS_TRUE_ordinal (by simp)) (Value.ref.inj q)) (by decide) (by decide) k) ?_
  show own_Fin p e below _ (T1.setTop (mkF m 7 #[.val (.ref w_NOT_EQUAL)] []))
  refine own_st (fun t k => XS.aloadN X1.here hx rfl (hb hby d2_7) rfl rfl k) ?_
  show own_Fin p e below _ (T1.setTop (mkF m 8 #[.val (.ref w_NOT_EQUAL)] [(.ref w_NOT_EQUAL)]))
  obtain ⟨T2, X2, e2, st2⟩ := getS2 X1 hx hZ hown (host := "") (Or.inl (hw _ (List.mem_of_getElem? (i := 15) rfl))) Via.refl e1 S_IS_FALSE (g := (mkF m 8 #[.val (.ref w_NOT_EQUAL)] [(.ref w_NOT_EQUAL)])) rfl (hb hby d2_8)
  refine own_st st2 ?_
  show own_Fin p e below _ (T2.setTop (mkF m 11 #[.val (.ref w_NOT_EQUAL)] [(.ref w_IS_FALSE), (.ref w_NOT_EQUAL)]))
  refine own_st (fun t k => Jvm.RoadKit.acmp (g := (mkF m 11 #[.val (.ref w_NOT_EQUAL)] [(.ref w_IS_FALSE), (.ref w_NOT_EQUAL)])) X2 hx rfl rfl rfl (pc0 := 11) (pc' := 18) (same := false) rfl (hb hby d2_11) rfl (decide_eq_false fun q => (Fld.ne F_NOT_EQUAL_ordinal F_IS_FALSE_ordinal (by simp)) (Value.ref.inj q)) (by decide) (by decide) k) ?_
  show own_Fin p e below _ (T2.setTop (mkF m 18 #[.val (.ref w_NOT_EQUAL)] []))
  refine own_st (fun t k => XS.iconst X2.here hx rfl (hb hby d2_18) k) ?_
  show own_Fin p e below _ (T2.setTop (mkF m 19 #[.val (.ref w_NOT_EQUAL)] [(.int (0 : Int32))]))
  obtain ⟨fs, hr, hrun, hended, hW, hsame⟩ := X2.leave (v := some (.int (0 : Int32))) (fun h => by rw [Bd.returns] at h; cases h)
  exact ⟨_, _, retN X2 hx (t := .boolean) Bd.returns (by simp) (hb hby d2_19) hr, hrun, hended, _, _, rfl, ⟨rfl, N0, e2⟩, ⟨_, rfl⟩, hW, hsame.mono (by decide) (by decide)⟩
set_option maxRecDepth 65536 in
set_option maxHeartbeats 40000000 in
theorem rm0_c1 (l : Launch) (Z : State) (a0 : Array Value) (hw : ∀ d ∈ tables_1, d.before a0 Z = true) (ws : List Jvm.Cond) (w_EQUAL w_IS_TRUE w_IS_FALSE w_GREATER_THAN_OR_EQUAL w_IS_NULL w_IS_NOT_NULL w_STARTING_WITH w_NOT_BETWEEN w_GREATER_THAN w_IN w_NOT_EQUAL w_NOT_IN w_ENDING_WITH w_BETWEEN w_NOT_CONTAINING w_CONTAINING w_LIKE w_LESS_THAN_OR_EQUAL w_LESS_THAN w_NOT_LIKE : Addr) (p0 : Int32) (h0 : Heap) (n0 : Nat) (PN : own_Pins Z h0 w_EQUAL w_IS_TRUE w_IS_FALSE w_GREATER_THAN_OR_EQUAL w_IS_NULL w_IS_NOT_NULL w_STARTING_WITH w_NOT_BETWEEN w_GREATER_THAN w_IN w_NOT_EQUAL w_NOT_IN w_ENDING_WITH w_BETWEEN w_NOT_CONTAINING w_CONTAINING w_LIKE w_LESS_THAN_OR_EQUAL w_LESS_THAN w_NOT_LIKE) (q0 : ((p0 &&& (2147483647 : Int32)) % (20 : Int32)) = (1 : Int32)) :
    MetFree l x (head1 (Jvm.Cond.code x code maxLocals ret :: ws) room_1) (fun a U => a = #[(.int p0)] ∧ Z.Warmed39 U.vm ∧ U.heap = h0) (fun _ _ _ _ _ => True) (fun _ U o U' => ∃ v L, o = .returned v ∧ own_Q h0 n0 (some (.int (1 : Int32))) v U'.heap L ∧ FrameEnd U o U' L room_1.cells room_1.slots) := by
  have E_NOT_EQUAL : Exa Z h0 w_NOT_EQUAL "com/example/rootward/rootward/jdbc/Condition$Operator" := PN.2.2.2.2.2.2.2.2.2.2.2.2.2.2.2.2.2.2.2.2.2.1
  refine MetFree.of_bodySF (plainFor_of_name pn_com_example_rootward_rootward_jdbc_OperatorTestsTruthPinLaw) hisR ?_
  intro p e s m args below meth c s₁ Bd hml0 hP hK
  obtain ⟨rfl, hZ, hh⟩ := hP
  have hx := Bd.exec
  have hby := Bd.bytes
  have hml : c.maxLocals = 5 := hml0
  have hown : s.vm.findClass "com/example/rootward/rootward/jdbc/OperatorTestsTruthPinLaw" = some m.cls := findClass_of_methodNamed Bd.named
  have X0 : Stand p l e room_1 s m #[(.int p0)] below meth c s₁ [] 0 0 := Stand.of_body Bd
  have e0 : s₁.heap = h0 := by rw [← hh, Bd.state]; rfl
  have N0 := Fr.nil n0
  refine (?_ : own_Fin p e below _ _)
  refine own_st (fun t k => castTop (ef_0_I m p0) k) ?_
  show own_Fin p e below _ (s₁.setTop (mkF m 0 #[.val (.int p0), .unset, .unset, .unset, .unset] []))
  refine own_st (fun t k => XS.iloadN X0.here hx rfl (hb hby at_0) rfl k) ?_
  show own_Fin p e below _ (s₁.setTop (mkF m 1 #[.val (.int p0), .unset, .unset, .unset, .unset] [(.int p0)]))
  refine own_st (fun t k => X0.ldcI hx hown (mvT hZ (hw _ (List.mem_of_getElem? (i := 0) rfl))) rfl (hb hby at_1) k) ?_
  show own_Fin p e below _ (s₁.setTop (mkF m 3 #[.val (.int p0), .unset, .unset, .unset, .unset] [(.int (2147483647 : Int32)), (.int p0)]))
  refine own_st (fun t k => XS.iand X0.here hx rfl (hb hby at_3) rfl k) ?_
  show own_Fin p e below _ (s₁.setTop (mkF m 4 #[.val (.int p0), .unset, .unset, .unset, .unset] [(.int (p0 &&& (2147483647 : Int32)))]))
  refine own_st (fun t k => XS.bipush X0.here hx rfl (hb hby at_4) k) ?_
  show own_Fin p e below _ (s₁.setTop (mkF m 6 #[.val (.int p0), .unset, .unset, .unset, .unset] [(.int (20 : Int32)), (.int (p0 &&& (2147483647 : Int32)))]))
  refine own_st (fun t k => iremM X0 hx rfl (hb hby at_6) rfl (by decide) k) ?_
  show own_Fin p e below _ (s₁.setTop (mkF m 7 #[.val (.int p0), .unset, .unset, .unset, .unset] [(.int ((p0 &&& (2147483647 : Int32)) % (20 : Int32)))]))
  rw [q0]
  show own_Fin p e below _ (s₁.setTop (mkF m 7 #[.val (.int p0), .unset, .unset, .unset, .unset] [(.int (1 : Int32))]))
  refine own_st (fun t k => XS.istoreN X0.here hx rfl (hb hby at_7) rfl (l' := #[.val (.int p0), .val (.int (1 : Int32)), .unset, .unset, .unset]) rfl k) ?_
  show own_Fin p e below _ (s₁.setTop (mkF m 8 #[.val (.int p0), .val (.int (1 : Int32)), .unset, .unset, .unset] []))
  refine own_st (fun t k => XS.iloadN X0.here hx rfl (hb hby at_8) rfl k) ?_
  show own_Fin p e below _ (s₁.setTop (mkF m 9 #[.val (.int p0), .val (.int (1 : Int32)), .unset, .unset, .unset] [(.int (1 : Int32))]))
  obtain ⟨_, _, ⟨T1, L1, k1, n1⟩, -, X1, ⟨Lc1, hQ1, l1, y1, z1⟩, st1⟩ := Jvm.LawKit.callS X0 hx (y := (⟨"com/example/rootward/rootward/jdbc/OperatorTestsTruthPinLaw", "pick", "(I)Lcom/example/rootward/rootward/jdbc/Condition$Operator;"⟩ : MethodName)) hown (mvT hZ (hw _ (List.mem_of_getElem? (i := 1) rfl))) (mvT hZ (hw _ (List.mem_of_getElem? (i := 2) rfl))) (mvT hZ (hw _ (List.mem_of_getElem? (i := 3) rfl))) (mvT hZ (hw _ (List.mem_of_getElem? (i := 4) rfl))) (by decide) (backOf (W := 0) (rm1_1 l Z a0 hw [] w_EQUAL w_IS_TRUE w_IS_FALSE w_GREATER_THAN_OR_EQUAL w_IS_NULL w_IS_NOT_NULL w_STARTING_WITH w_NOT_BETWEEN w_GREATER_THAN w_IN w_NOT_EQUAL w_NOT_IN w_ENDING_WITH w_BETWEEN w_NOT_CONTAINING w_CONTAINING w_LIKE w_LESS_THAN_OR_EQUAL w_LESS_THAN w_NOT_LIKE h0 n0 PN) hZ (hw _ (List.mem_of_getElem? (i := 4) rfl)) (hw _ (List.mem_of_getElem? (i := 3) rfl)) (by decide) (by decide)) (g := (mkF m 9 #[.val (.int p0), .val (.int (1 : Int32)), .unset, .unset, .unset] [(.int (1 : Int32))])) rfl (by rw [hml]; rfl) (argsL := [(.int (1 : Int32))]) (rest := []) (lenOf pd__I_Lcom_example_rootward_rootward_jdbc_Condition_Operator_ rfl) rfl (by show 2 * 0 + _ ≤ _; exact Nat.le_of_eq rfl) (hb hby at_9) (fun _ _ => ⟨rfl, e0, (by decide : 0 + 0 ≤ _), (by decide : 0 + 0 ≤ _)⟩)
  dsimp only [Pt.U, Pt.locs, Pt.cells, Pt.slots] at X1 l1 y1 z1 st1 hQ1
  subst l1 y1 z1
  obtain ⟨rfl, N1q, e1⟩ := hQ1
  have N1 := Fr.app N0 N1q
  refine own_st st1 ?_
  show own_Fin p e below _ (T1.setTop (mkF m 12 #[.val (.int p0), .val (.int (1 : Int32)), .unset, .unset, .unset] [(.ref w_NOT_EQUAL)]))
  refine own_st (fun t k => XS.astoreN X1.here hx rfl (hb hby at_12) rfl rfl (l' := #[.val (.int p0), .val (.int (1 : Int32)), .val (.ref w_NOT_EQUAL), .unset, .unset]) rfl k) ?_
  show own_Fin p e below _ (T1.setTop (mkF m 13 #[.val (.int p0), .val (.int (1 : Int32)), .val (.ref w_NOT_EQUAL), .unset, .unset] []))
  refine own_st (fun t k => XS.iloadN X1.here hx rfl (hb hby at_13) rfl k) ?_
  show own_Fin p e below _ (T1.setTop (mkF m 14 #[.val (.int p0), .val (.int (1 : Int32)), .val (.ref w_NOT_EQUAL), .unset, .unset] [(.int (1 : Int32))]))
  refine own_st (fun t k => XS.bipush X1.here hx rfl (hb hby at_14) k) ?_
  show own_Fin p e below _ (T1.setTop (mkF m 16 #[.val (.int p0), .val (.int (1 : Int32)), .val (.ref w_NOT_EQUAL), .unset, .unset] [(.int (18 : Int32)), (.int (1 : Int32))]))
  refine own_st (fun t k => XS.icmpNo X1.here hx rfl (hb hby at_16) rfl (by decide) k) ?_
  show own_Fin p e below _ (T1.setTop (mkF m 19 #[.val (.int p0), .val (.int (1 : Int32)), .val (.ref w_NOT_EQUAL), .unset, .unset] []))
  refine own_st (fun t k => XS.iloadN X1.here hx rfl (hb hby at_19) rfl k) ?_
  show own_Fin p e below _ (T1.setTop (mkF m 20 #[.val (.int p0), .val (.int (1 : Int32)), .val (.ref w_NOT_EQUAL), .unset, .unset] [(.int (1 : Int32))]))
  refine own_st (fun t k => XS.bipush X1.here hx rfl (hb hby at_20) k) ?_
  show own_Fin p e below _ (T1.setTop (mkF m 22 #[.val (.int p0), .val (.int (1 : Int32)), .val (.ref w_NOT_EQUAL), .unset, .unset] [(.int (19 : Int32)), (.int (1 : Int32))]))
  refine own_st (fun t k => XS.icmpYes X1.here hx rfl (pc0 := 22) (pc' := 29) rfl (hb hby at_22) rfl (by decide) (by decide) (by decide) k) ?_
  show own_Fin p e below _ (T1.setTop (mkF m 29 #[.val (.int p0), .val (.int (1 : Int32)), .val (.ref w_NOT_EQUAL), .unset, .unset] []))
  refine own_st (fun t k => XS.iconst X1.here hx rfl (hb hby at_29) k) ?_
  show own_Fin p e below _ (T1.setTop (mkF m 30 #[.val (.int p0), .val (.int (1 : Int32)), .val (.ref w_NOT_EQUAL), .unset, .unset] [(.int (0 : Int32))]))
  refine own_st (fun t k => XS.istoreN X1.here hx rfl (hb hby at_30) rfl (l' := #[.val (.int p0), .val (.int (1 : Int32)), .val (.ref w_NOT_EQUAL), .val (.int (0 : Int32)), .unset]) rfl k) ?_
  show own_Fin p e below _ (T1.setTop (mkF m 31 #[.val (.int p0), .val (.int (1 : Int32)), .val (.ref w_NOT_EQUAL), .val (.int (0 : Int32)), .unset] []))
  refine own_st (fun t k => XS.aloadN X1.here hx rfl (hb hby at_31) rfl rfl k) ?_
  show own_Fin p e below _ (T1.setTop (mkF m 32 #[.val (.int p0), .val (.int (1 : Int32)), .val (.ref w_NOT_EQUAL), .val (.int (0 : Int32)), .unset] [(.ref w_NOT_EQUAL)]))
  obtain ⟨cq2, kq2, q2a, q2b, q2c⟩ := isOf hZ e1 E_NOT_EQUAL
  obtain ⟨_, _, ⟨T2, L2, k2, n2⟩, -, X2, ⟨Lc2, hQ2, l2, y2, z2⟩, st2⟩ := X1.virtualBack hx (y := (⟨"com/example/rootward/rootward/jdbc/Condition$Operator", "testsTruth", "()Z"⟩ : MethodName)) (z := (⟨"com/example/rootward/rootward/jdbc/Condition$Operator", "testsTruth", "()Z"⟩ : MethodName)) hown (mvT hZ (hw _ (List.mem_of_getElem? (i := 8) rfl))) (mvT hZ (hw _ (List.mem_of_getElem? (i := 9) rfl))) (notFace_of_selects (args := #[]) (mvT hZ (hw _ (List.mem_of_getElem? (i := 11) rfl)))) (mvT hZ (hw _ (List.mem_of_getElem? (i := 11) rfl))) (mvT hZ (hw _ (List.mem_of_getElem? (i := 10) rfl))) (by decide) (backOf (W := 0) (rm2_w_NOT_EQUAL l Z a0 hw [] w_EQUAL w_IS_TRUE w_IS_FALSE w_GREATER_THAN_OR_EQUAL w_IS_NULL w_IS_NOT_NULL w_STARTING_WITH w_NOT_BETWEEN w_GREATER_THAN w_IN w_NOT_EQUAL w_NOT_IN w_ENDING_WITH w_BETWEEN w_NOT_CONTAINING w_CONTAINING w_LIKE w_LESS_THAN_OR_EQUAL w_LESS_THAN w_NOT_LIKE h0 n0 PN) hZ (hw _ (List.mem_of_getElem? (i := 12) rfl)) (hw _ (List.mem_of_getElem? (i := 6) rfl)) (by decide) (by decide)) q2a q2c (g := (mkF m 32 #[.val (.int p0), .val (.int (1 : Int32)), .val (.ref w_NOT_EQUAL), .val (.int (0 : Int32)), .unset] [(.ref w_NOT_EQUAL)])) rfl (by rw [hml]; rfl) (Steps.refl _) (argsL := []) (rest := []) (lenOf pd___Z rfl) rfl (by show 2 * 0 + _ ≤ _; exact Nat.le_of_eq rfl) (hb hby at_32) (fun _ _ => ⟨rfl, e1, (by decide : 0 + 0 ≤ _), (by decide : 0 + 0 ≤ _)⟩)
  dsimp only [Pt.U, Pt.locs, Pt.cells, Pt.slots] at X2 l2 y2 z2 st2 hQ2
  subst l2 y2 z2
  obtain ⟨rfl, N2q, e2⟩ := hQ2
  have N2 := Fr.app N1 N2q
  refine own_tr st2 ?_
  show own_Fin p e below _ (T2.setTop (mkF m 35 #[.val (.int p0), .val (.int (1 : Int32)), .val (.ref w_NOT_EQUAL), .val (.int (0 : Int32)), .unset] [(.int (0 : Int32))]))
  refine own_st (fun t k => XS.istore X2.here hx rfl (hb hby at_35) rfl (l' := #[.val (.int p0), .val (.int (1 : Int32)), .val (.ref w_NOT_EQUAL), .val (.int (0 : Int32)), .val (.int (0 : Int32))]) rfl k) ?_
  show own_Fin p e below _ (T2.setTop (mkF m 37 #[.val (.int p0), .val (.int (1 : Int32)), .val (.ref w_NOT_EQUAL), .val (.int (0 : Int32)), .val (.int (0 : Int32))] []))
  refine own_st (fun t k => XS.iload X2.here hx rfl (hb hby at_37) rfl k) ?_
  show own_Fin p e below _ (T2.setTop (mkF m 39 #[.val (.int p0), .val (.int (1 : Int32)), .val (.ref w_NOT_EQUAL), .val (.int (0 : Int32)), .val (.int (0 : Int32))] [(.int (0 : Int32))]))
  refine own_st (fun t k => XS.iloadN X2.here hx rfl (hb hby at_39) rfl k) ?_
  show own_Fin p e below _ (T2.setTop (mkF m 40 #[.val (.int p0), .val (.int (1 : Int32)), .val (.ref w_NOT_EQUAL), .val (.int (0 : Int32)), .val (.int (0 : Int32))] [(.int (0 : Int32)), (.int (0 : Int32))]))
  refine own_st (fun t k => XS.icmpYes X2.here hx rfl (pc0 := 40) (pc' := 45) rfl (hb hby at_40) rfl (by decide) (by decide) (by decide) k) ?_
  show own_Fin p e below _ (T2.setTop (mkF m 45 #[.val (.int p0), .val (.int (1 : Int32)), .val (.ref w_NOT_EQUAL), .val (.int (0 : Int32)), .val (.int (0 : Int32))] []))
  refine own_st (fun t k => XS.iload X2.here hx rfl (hb hby at_45) rfl k) ?_
  show own_Fin p e below _ (T2.setTop (mkF m 47 #[.val (.int p0), .val (.int (1 : Int32)), .val (.ref w_NOT_EQUAL), .val (.int (0 : Int32)), .val (.int (0 : Int32))] [(.int (0 : Int32))]))
  refine own_st (fun t k => XS.ifYes X2.here hx rfl (pc0 := 47) (pc' := 73) rfl (hb hby at_47) rfl (by decide) (by decide) (by decide) k) ?_
  show own_Fin p e below _ (T2.setTop (mkF m 73 #[.val (.int p0), .val (.int (1 : Int32)), .val (.ref w_NOT_EQUAL), .val (.int (0 : Int32)), .val (.int (0 : Int32))] []))
  refine own_st (fun t k => XS.iconst X2.here hx rfl (hb hby at_73) k) ?_
  show own_Fin p e below _ (T2.setTop (mkF m 74 #[.val (.int p0), .val (.int (1 : Int32)), .val (.ref w_NOT_EQUAL), .val (.int (0 : Int32)), .val (.int (0 : Int32))] [(.int (1 : Int32))]))
  obtain ⟨fs, hr, hrun, hended, hW, hsame⟩ := X2.leave (v := some (.int (1 : Int32))) (fun h => by rw [Bd.returns] at h; cases h)
  exact ⟨_, _, retN X2 hx (t := .boolean) Bd.returns (by simp) (hb hby at_74) hr, hrun, hended, _, _, rfl, ⟨rfl, N2, e2⟩, ⟨_, rfl⟩, hW, hsame.mono (by decide) (by decide)⟩
theorem d1_100 : decode method_2_code 100 = .ok (.getstatic 16, 3) := by decide +kernel
theorem d1_103 : decode method_2_code 103 = .ok (.areturn, 1) := by decide +kernel
set_option maxRecDepth 65536 in
set_option maxHeartbeats 40000000 in
theorem rm1_2 (l : Launch) (Z : State) (a0 : Array Value) (hw : ∀ d ∈ tables_1, d.before a0 Z = true) (ws : List Jvm.Cond) (w_EQUAL w_IS_TRUE w_IS_FALSE w_GREATER_THAN_OR_EQUAL w_IS_NULL w_IS_NOT_NULL w_STARTING_WITH w_NOT_BETWEEN w_GREATER_THAN w_IN w_NOT_EQUAL w_NOT_IN w_ENDING_WITH w_BETWEEN w_NOT_CONTAINING w_CONTAINING w_LIKE w_LESS_THAN_OR_EQUAL w_LESS_THAN w_NOT_LIKE : Addr) (h0 : Heap) (n0 : Nat) (PN : own_Pins Z h0 w_EQUAL w_IS_TRUE w_IS_FALSE w_GREATER_THAN_OR_EQUAL w_IS_NULL w_IS_NOT_NULL w_STARTING_WITH w_NOT_BETWEEN w_GREATER_THAN w_IN w_NOT_EQUAL w_NOT_IN w_ENDING_WITH w_BETWEEN w_NOT_CONTAINING w_CONTAINING w_LIKE w_LESS_THAN_OR_EQUAL w_LESS_THAN w_NOT_LIKE) :
    MetFree l (⟨"com/example/rootward/rootward/jdbc/OperatorTestsTruthPinLaw", "pick", "(I)Lcom/example/rootward/rootward/jdbc/Condition$Operator;"⟩ : MethodName) (head1 (Jvm.Cond.code (⟨"com/example/rootward/rootward/jdbc/OperatorTestsTruthPinLaw", "pick", "(I)Lcom/example/rootward/rootward/jdbc/Condition$Operator;"⟩ : MethodName) method_2_code 1 (some (.object "com/example/rootward/rootward/jdbc/Condition$Operator")) :: ws) ({ frames := 0, cells := 0, slots := 0, locals := 0 } : Room)) (fun a U => a = #[(.int (2 : Int32))] ∧ Z.Warmed39 U.vm ∧ U.heap = h0) (fun _ _ _ _ _ => True) (fun _ U o U' => ∃ v L, o = .returned v ∧ own_Q h0 n0 (some (.ref w_GREATER_THAN)) v U'.heap L ∧ FrameEnd U o U' L ({ frames := 0, cells := 0, slots := 0, locals := 0 } : Room).cells ({ frames := 0, cells := 0, slots := 0, locals := 0 } : Room).slots) := by
  have S_GREATER_THAN : Sta Z h0 "com/example/rootward/rootward/jdbc/Condition$Operator" "GREATER_THAN" "Lcom/example/rootward/rootward/jdbc/Condition$Operator;" (.ref w_GREATER_THAN) := PN.2.2.2.2.2.2.2.2.2.2.2.2.2.2.2.2.1
  refine MetFree.of_bodySF (plainFor_of_name pn_com_example_rootward_rootward_jdbc_OperatorTestsTruthPinLaw) hisR ?_
  intro p e s m args below meth c s₁ Bd hml0 hP hK
  obtain ⟨rfl, hZ, hh⟩ := hP
  have hx := Bd.exec
  have hby := Bd.bytes
  have hml : c.maxLocals = 1 := hml0
  have hown : s.vm.findClass "com/example/rootward/rootward/jdbc/OperatorTestsTruthPinLaw" = some m.cls := findClass_of_methodNamed Bd.named
  have X0 : Stand p l e ({ frames := 0, cells := 0, slots := 0, locals := 0 } : Room) s m #[(.int (2 : Int32))] below meth c s₁ [] 0 0 := Stand.of_body Bd
  have e0 : s₁.heap = h0 := by rw [← hh, Bd.state]; rfl
  have N0 := Fr.nil n0
  refine (?_ : own_Fin p e below _ _)
  refine own_st (fun t k => castTop (ef_1_I m (2 : Int32)) k) ?_
  show own_Fin p e below _ (s₁.setTop (mkF m 0 #[.val (.int (2 : Int32))] []))
  refine own_st (fun t k => XS.iloadN X0.here hx rfl (hb hby d1_0) rfl k) ?_
  show own_Fin p e below _ (s₁.setTop (mkF m 1 #[.val (.int (2 : Int32))] [(.int (2 : Int32))]))
  refine own_st (fun t k => XS.tswIn X0.here hx rfl (pc0 := 1) (pc' := 100) rfl (hb hby d1_1) rfl (by decide) (o := 99) (by decide) (by decide) (by decide) k) ?_
  show own_Fin p e below _ (s₁.setTop (mkF m 100 #[.val (.int (2 : Int32))] []))
  obtain ⟨T1, X1, e1, st1⟩ := getS2 X0 hx hZ hown (host := "") (Or.inl (hw _ (List.mem_of_getElem? (i := 27) rfl))) Via.refl e0 S_GREATER_THAN (g := (mkF m 100 #[.val (.int (2 : Int32))] [])) rfl (hb hby d1_100)
  refine own_st st1 ?_
  show own_Fin p e below _ (T1.setTop (mkF m 103 #[.val (.int (2 : Int32))] [(.ref w_GREATER_THAN)]))
  obtain ⟨fs, hr, hrun, hended, hW, hsame⟩ := X1.leave (v := some (.ref w_GREATER_THAN)) (fun h => by rw [Bd.returns] at h; cases h)
  exact ⟨_, _, retOut X1 hx (t := (.object "com/example/rootward/rootward/jdbc/Condition$Operator")) Bd.returns rfl (Or.inr (Or.inr (Or.inr (Or.inr ⟨rfl, rfl, rfl⟩)))) (hb hby d1_103) hr, hrun, hended, _, _, rfl, ⟨rfl, N0, e1⟩, ⟨_, rfl⟩, hW, hsame.mono (by decide) (by decide)⟩
set_option maxRecDepth 65536 in
set_option maxHeartbeats 40000000 in
theorem rm2_w_GREATER_THAN (l : Launch) (Z : State) (a0 : Array Value) (hw : ∀ d ∈ tables_1, d.before a0 Z = true) (ws : List Jvm.Cond) (w_EQUAL w_IS_TRUE w_IS_FALSE w_GREATER_THAN_OR_EQUAL w_IS_NULL w_IS_NOT_NULL w_STARTING_WITH w_NOT_BETWEEN w_GREATER_THAN w_IN w_NOT_EQUAL w_NOT_IN w_ENDING_WITH w_BETWEEN w_NOT_CONTAINING w_CONTAINING w_LIKE w_LESS_THAN_OR_EQUAL w_LESS_THAN w_NOT_LIKE : Addr) (h0 : Heap) (n0 : Nat) (PN : own_Pins Z h0 w_EQUAL w_IS_TRUE w_IS_FALSE w_GREATER_THAN_OR_EQUAL w_IS_NULL w_IS_NOT_NULL w_STARTING_WITH w_NOT_BETWEEN w_GREATER_THAN w_IN w_NOT_EQUAL w_NOT_IN w_ENDING_WITH w_BETWEEN w_NOT_CONTAINING w_CONTAINING w_LIKE w_LESS_THAN_OR_EQUAL w_LESS_THAN w_NOT_LIKE) :
    MetFree l (⟨"com/example/rootward/rootward/jdbc/Condition$Operator", "testsTruth", "()Z"⟩ : MethodName) (head1 (Jvm.Cond.code (⟨"com/example/rootward/rootward/jdbc/Condition$Operator", "testsTruth", "()Z"⟩ : MethodName) prog_32_method_8_code 1 (some .boolean) :: ws) ({ frames := 0, cells := 0, slots := 0, locals := 0 } : Room)) (fun a U => a = #[(.ref w_GREATER_THAN)] ∧ Z.Warmed39 U.vm ∧ U.heap = h0) (fun _ _ _ _ _ => True) (fun _ U o U' => ∃ v L, o = .returned v ∧ own_Q h0 n0 (some (.int (0 : Int32))) v U'.heap L ∧ FrameEnd U o U' L ({ frames := 0, cells := 0, slots := 0, locals := 0 } : Room).cells ({ frames := 0, cells := 0, slots := 0, locals := 0 } : Room).slots) := by
  have S_IS_TRUE : Sta Z h0 "com/example/rootward/rootward/jdbc/Condition$Operator" "IS_TRUE" "Lcom/example/rootward/rootward/jdbc/Condition$Operator;" (.ref w_IS_TRUE) := PN.2.2.1
  have S_IS_FALSE : Sta Z h0 "com/example/rootward/rootward/jdbc/Condition$Operator" "IS_FALSE" "Lcom/example/rootward/rootward/jdbc/Condition$Operator;" (.ref w_IS_FALSE) := PN.2.2.2.2.1
  have F_IS_TRUE_ordinal : Fld Z h0 w_IS_TRUE "java/lang/Enum" "ordinal" "I" (.int 18) := PN.2.2.2.2.2.2.2.2.2.2.2.2.2.2.2.2.2.2.2.2.2.2.2.2.2.2.2.2.2.2.2.2.2.2.2.2.2.2.2.2.2.1
  have F_IS_FALSE_ordinal : Fld Z h0 w_IS_FALSE "java/lang/Enum" "ordinal" "I" (.int 19) := PN.2.2.2.2.2.2.2.2.2.2.2.2.2.2.2.2.2.2.2.2.2.2.2.2.2.2.2.2.2.2.2.2.2.2.2.2.2.2.2.2.2.2.1
  have F_GREATER_THAN_ordinal : Fld Z h0 w_GREATER_THAN "java/lang/Enum" "ordinal" "I" (.int 2) := PN.2.2.2.2.2.2.2.2.2.2.2.2.2.2.2.2.2.2.2.2.2.2.2.2.2.2.2.2.2.2.2.2.2.2.2.2.2.2.2.2.2.2.2.2.2.2.2.2.1
  refine MetFree.of_bodySF (plainFor_of_name pn_com_example_rootward_rootward_jdbc_Condition_Operator) hisR ?_
  intro p e s m args below meth c s₁ Bd hml0 hP hK
  obtain ⟨rfl, hZ, hh⟩ := hP
  have hx := Bd.exec
  have hby := Bd.bytes
  have hml : c.maxLocals = 1 := hml0
  have hown : s.vm.findClass "com/example/rootward/rootward/jdbc/Condition$Operator" = some m.cls := findClass_of_methodNamed Bd.named
  have X0 : Stand p l e ({ frames := 0, cells := 0, slots := 0, locals := 0 } : Room) s m #[(.ref w_GREATER_THAN)] below meth c s₁ [] 0 0 := Stand.of_body Bd
  have e0 : s₁.heap = h0 := by rw [← hh, Bd.state]; rfl
  have N0 := Fr.nil n0
  refine (?_ : own_Fin p e below _ _)
  refine own_st (fun t k => castTop (ef_2_R m w_GREATER_THAN) k) ?_
  show own_Fin p e below _ (s₁.setTop (mkF m 0 #[.val (.ref w_GREATER_THAN)] []))
  refine own_st (fun t k => XS.aloadN X0.here hx rfl (hb hby d2_0) rfl rfl k) ?_
  show own_Fin p e below _ (s₁.setTop (mkF m 1 #[.val (.ref w_GREATER_THAN)] [(.ref w_GREATER_THAN)]))
  obtain ⟨T1, X1, e1, st1⟩ := getS2 X0 hx hZ hown (host := "") (Or.inl (hw _ (List.mem_of_getElem? (i := 13) rfl))) Via.refl e0 S_IS_TRUE (g := (mkF m 1 #[.val (.ref w_GREATER_THAN)] [(.ref w_GREATER_THAN)])) rfl (hb hby d2_1)
  refine own_st st1 ?_
  show own_Fin p e below _ (T1.setTop (mkF m 4 #[.val (.ref w_GREATER_THAN)] [(.ref w_IS_TRUE), (.ref w_GREATER_THAN)]))
  refine own_st (fun t k => Jvm.RoadKit.acmp (g := (mkF m 4 #[.val (.ref w_GREATER_THAN)] [(.ref w_IS_TRUE), (.ref w_GREATER_THAN)])) X1 hx rfl rfl rfl (pc0 := 4) (pc' := 7) (same := false) rfl (hb hby d2_4) rfl (decide_eq_false fun q => (Fld.ne F_GREATER_THAN_ordinal F_IS_TRUE_ordinal (by simp)) (Value.ref.inj q)) (by decide) (by decide) k) ?_
  show own_Fin p e below _ (T1.setTop (mkF m 7 #[.val (.ref w_GREATER_THAN)] []))
  refine own_st (fun t k => XS.aloadN X1.here hx rfl (hb hby d2_7) rfl rfl k) ?_
  show own_Fin p e below _ (T1.setTop (mkF m 8 #[.val (.ref w_GREATER_THAN)] [(.ref w_GREATER_THAN)]))
  obtain ⟨T2, X2, e2, st2⟩ := getS2 X1 hx hZ hown (host := "") (Or.inl (hw _ (List.mem_of_getElem? (i := 15) rfl))) Via.refl e1 S_IS_FALSE (g := (mkF m 8 #[.val (.ref w_GREATER_THAN)] [(.ref w_GREATER_THAN)])) rfl (hb hby d2_8)
  refine own_st st2 ?_
  show own_Fin p e below _ (T2.setTop (mkF m 11 #[.val (.ref w_GREATER_THAN)] [(.ref w_IS_FALSE), (.ref w_GREATER_THAN)]))
  refine own_st (fun t k => Jvm.RoadKit.acmp (g := (mkF m 11 #[.val (.ref w_GREATER_THAN)] [(.ref w_IS_FALSE), (.ref w_GREATER_THAN)])) X2 hx rfl rfl rfl (pc0 := 11) (pc' := 18) (same := false) rfl (hb hby d2_11) rfl (decide_eq_false fun q => (Fld.ne F_GREATER_THAN_ordinal F_IS_FALSE_ordinal (by simp)) (Value.ref.inj q)) (by decide) (by decide) k) ?_
  show own_Fin p e below _ (T2.setTop (mkF m 18 #[.val (.ref w_GREATER_THAN)] []))
  refine own_st (fun t k => XS.iconst X2.here hx rfl (hb hby d2_18) k) ?_
  show own_Fin p e below _ (T2.setTop (mkF m 19 #[.val (.ref w_GREATER_THAN)] [(.int (0 : Int32))]))
  obtain ⟨fs, hr, hrun, hended, hW, hsame⟩ := X2.leave (v := some (.int (0 : Int32))) (fun h => by rw [Bd.returns] at h; cases h)
  exact ⟨_, _, retN X2 hx (t := .boolean) Bd.returns (by simp) (hb hby d2_19) hr, hrun, hended, _, _, rfl, ⟨rfl, N0, e2⟩, ⟨_, rfl⟩, hW, hsame.mono (by decide) (by decide)⟩
set_option maxRecDepth 65536 in
set_option maxHeartbeats 40000000 in
theorem rm0_c2 (l : Launch) (Z : State) (a0 : Array Value) (hw : ∀ d ∈ tables_1, d.before a0 Z = true) (ws : List Jvm.Cond) (w_EQUAL w_IS_TRUE w_IS_FALSE w_GREATER_THAN_OR_EQUAL w_IS_NULL w_IS_NOT_NULL w_STARTING_WITH w_NOT_BETWEEN w_GREATER_THAN w_IN w_NOT_EQUAL w_NOT_IN w_ENDING_WITH w_BETWEEN w_NOT_CONTAINING w_CONTAINING w_LIKE w_LESS_THAN_OR_EQUAL w_LESS_THAN w_NOT_LIKE : Addr) (p0 : Int32) (h0 : Heap) (n0 : Nat) (PN : own_Pins Z h0 w_EQUAL w_IS_TRUE w_IS_FALSE w_GREATER_THAN_OR_EQUAL w_IS_NULL w_IS_NOT_NULL w_STARTING_WITH w_NOT_BETWEEN w_GREATER_THAN w_IN w_NOT_EQUAL w_NOT_IN w_ENDING_WITH w_BETWEEN w_NOT_CONTAINING w_CONTAINING w_LIKE w_LESS_THAN_OR_EQUAL w_LESS_THAN w_NOT_LIKE) (q0 : ((p0 &&& (2147483647 : Int32)) % (20 : Int32)) = (2 : Int32)) :
    MetFree l x (head1 (Jvm.Cond.code x code maxLocals ret :: ws) room_1) (fun a U => a = #[(.int p0)] ∧ Z.Warmed39 U.vm ∧ U.heap = h0) (fun _ _ _ _ _ => True) (fun _ U o U' => ∃ v L, o = .returned v ∧ own_Q h0 n0 (some (.int (1 : Int32))) v U'.heap L ∧ FrameEnd U o U' L room_1.cells room_1.slots) := by
  have E_GREATER_THAN : Exa Z h0 w_GREATER_THAN "com/example/rootward/rootward/jdbc/Condition$Operator" := PN.2.2.2.2.2.2.2.2.2.2.2.2.2.2.2.2.2.1
  refine MetFree.of_bodySF (plainFor_of_name pn_com_example_rootward_rootward_jdbc_OperatorTestsTruthPinLaw) hisR ?_
  intro p e s m args below meth c s₁ Bd hml0 hP hK
  obtain ⟨rfl, hZ, hh⟩ := hP
  have hx := Bd.exec
  have hby := Bd.bytes
  have hml : c.maxLocals = 5 := hml0
  have hown : s.vm.findClass "com/example/rootward/rootward/jdbc/OperatorTestsTruthPinLaw" = some m.cls := findClass_of_methodNamed Bd.named
  have X0 : Stand p l e room_1 s m #[(.int p0)] below meth c s₁ [] 0 0 := Stand.of_body Bd
  have e0 : s₁.heap = h0 := by rw [← hh, Bd.state]; rfl
  have N0 := Fr.nil n0
  refine (?_ : own_Fin p e below _ _)
  refine own_st (fun t k => castTop (ef_0_I m p0) k) ?_
  show own_Fin p e below _ (s₁.setTop (mkF m 0 #[.val (.int p0), .unset, .unset, .unset, .unset] []))
  refine own_st (fun t k => XS.iloadN X0.here hx rfl (hb hby at_0) rfl k) ?_
  show own_Fin p e below _ (s₁.setTop (mkF m 1 #[.val (.int p0), .unset, .unset, .unset, .unset] [(.int p0)]))
  refine own_st (fun t k => X0.ldcI hx hown (mvT hZ (hw _ (List.mem_of_getElem? (i := 0) rfl))) rfl (hb hby at_1) k) ?_
  show own_Fin p e below _ (s₁.setTop (mkF m 3 #[.val (.int p0), .unset, .unset, .unset, .unset] [(.int (2147483647 : Int32)), (.int p0)]))
  refine own_st (fun t k => XS.iand X0.here hx rfl (hb hby at_3) rfl k) ?_
  show own_Fin p e below _ (s₁.setTop (mkF m 4 #[.val (.int p0), .unset, .unset, .unset, .unset] [(.int (p0 &&& (2147483647 : Int32)))]))
  refine own_st (fun t k => XS.bipush X0.here hx rfl (hb hby at_4) k) ?_
  show own_Fin p e below _ (s₁.setTop (mkF m 6 #[.val (.int p0), .unset, .unset, .unset, .unset] [(.int (20 : Int32)), (.int (p0 &&& (2147483647 : Int32)))]))
  refine own_st (fun t k => iremM X0 hx rfl (hb hby at_6) rfl (by decide) k) ?_
  show own_Fin p e below _ (s₁.setTop (mkF m 7 #[.val (.int p0), .unset, .unset, .unset, .unset] [(.int ((p0 &&& (2147483647 : Int32)) % (20 : Int32)))]))
  rw [q0]
  show own_Fin p e below _ (s₁.setTop (mkF m 7 #[.val (.int p0), .unset, .unset, .unset, .unset] [(.int (2 : Int32))]))
  refine own_st (fun t k => XS.istoreN X0.here hx rfl (hb hby at_7) rfl (l' := #[.val (.int p0), .val (.int (2 : Int32)), .unset, .unset, .unset]) rfl k) ?_
  show own_Fin p e below _ (s₁.setTop (mkF m 8 #[.val (.int p0), .val (.int (2 : Int32)), .unset, .unset, .unset] []))
  refine own_st (fun t k => XS.iloadN X0.here hx rfl (hb hby at_8) rfl k) ?_
  show own_Fin p e below _ (s₁.setTop (mkF m 9 #[.val (.int p0), .val (.int (2 : Int32)), .unset, .unset, .unset] [(.int (2 : Int32))]))
  obtain ⟨_, _, ⟨T1, L1, k1, n1⟩, -, X1, ⟨Lc1, hQ1, l1, y1, z1⟩, st1⟩ := Jvm.LawKit.callS X0 hx (y := (⟨"com/example/rootward/rootward/jdbc/OperatorTestsTruthPinLaw", "pick", "(I)Lcom/example/rootward/rootward/jdbc/Condition$Operator;"⟩ : MethodName)) hown (mvT hZ (hw _ (List.mem_of_getElem? (i := 1) rfl))) (mvT hZ (hw _ (List.mem_of_getElem? (i := 2) rfl))) (mvT hZ (hw _ (List.mem_of_getElem? (i := 3) rfl))) (mvT hZ (hw _ (List.mem_of_getElem? (i := 4) rfl))) (by decide) (backOf (W := 0) (rm1_2 l Z a0 hw [] w_EQUAL w_IS_TRUE w_IS_FALSE w_GREATER_THAN_OR_EQUAL w_IS_NULL w_IS_NOT_NULL w_STARTING_WITH w_NOT_BETWEEN w_GREATER_THAN w_IN w_NOT_EQUAL w_NOT_IN w_ENDING_WITH w_BETWEEN w_NOT_CONTAINING w_CONTAINING w_LIKE w_LESS_THAN_OR_EQUAL w_LESS_THAN w_NOT_LIKE h0 n0 PN) hZ (hw _ (List.mem_of_getElem? (i := 4) rfl)) (hw _ (List.mem_of_getElem? (i := 3) rfl)) (by decide) (by decide)) (g := (mkF m 9 #[.val (.int p0), .val (.int (2 : Int32)), .unset, .unset, .unset] [(.int (2 : Int32))])) rfl (by rw [hml]; rfl) (argsL := [(.int (2 : Int32))]) (rest := []) (lenOf pd__I_Lcom_example_rootward_rootward_jdbc_Condition_Operator_ rfl) rfl (by show 2 * 0 + _ ≤ _; exact Nat.le_of_eq rfl) (hb hby at_9) (fun _ _ => ⟨rfl, e0, (by decide : 0 + 0 ≤ _), (by decide : 0 + 0 ≤ _)⟩)
  dsimp only [Pt.U, Pt.locs, Pt.cells, Pt.slots] at X1 l1 y1 z1 st1 hQ1
  subst l1 y1 z1
  obtain ⟨rfl, N1q, e1⟩ := hQ1
  have N1 := Fr.app N0 N1q
  refine own_st st1 ?_
  show own_Fin p e below _ (T1.setTop (mkF m 12 #[.val (.int p0), .val (.int (2 : Int32)), .unset, .unset, .unset] [(.ref w_GREATER_THAN)]))
  refine own_st (fun t k => XS.astoreN X1.here hx rfl (hb hby at_12) rfl rfl (l' := #[.val (.int p0), .val (.int (2 : Int32)), .val (.ref w_GREATER_THAN), .unset, .unset]) rfl k) ?_
  show own_Fin p e below _ (T1.setTop (mkF m 13 #[.val (.int p0), .val (.int (2 : Int32)), .val (.ref w_GREATER_THAN), .unset, .unset] []))
  refine own_st (fun t k => XS.iloadN X1.here hx rfl (hb hby at_13) rfl k) ?_
  show own_Fin p e below _ (T1.setTop (mkF m 14 #[.val (.int p0), .val (.int (2 : Int32)), .val (.ref w_GREATER_THAN), .unset, .unset] [(.int (2 : Int32))]))
  refine own_st (fun t k => XS.bipush X1.here hx rfl (hb hby at_14) k) ?_
  show own_Fin p e below _ (T1.setTop (mkF m 16 #[.val (.int p0), .val (.int (2 : Int32)), .val (.ref w_GREATER_THAN), .unset, .unset] [(.int (18 : Int32)), (.int (2 : Int32))]))
  refine own_st (fun t k => XS.icmpNo X1.here hx rfl (hb hby at_16) rfl (by decide) k) ?_
  show own_Fin p e below _ (T1.setTop (mkF m 19 #[.val (.int p0), .val (.int (2 : Int32)), .val (.ref w_GREATER_THAN), .unset, .unset] []))
  refine own_st (fun t k => XS.iloadN X1.here hx rfl (hb hby at_19) rfl k) ?_
  show own_Fin p e below _ (T1.setTop (mkF m 20 #[.val (.int p0), .val (.int (2 : Int32)), .val (.ref w_GREATER_THAN), .unset, .unset] [(.int (2 : Int32))]))
  refine own_st (fun t k => XS.bipush X1.here hx rfl (hb hby at_20) k) ?_
  show own_Fin p e below _ (T1.setTop (mkF m 22 #[.val (.int p0), .val (.int (2 : Int32)), .val (.ref w_GREATER_THAN), .unset, .unset] [(.int (19 : Int32)), (.int (2 : Int32))]))
  refine own_st (fun t k => XS.icmpYes X1.here hx rfl (pc0 := 22) (pc' := 29) rfl (hb hby at_22) rfl (by decide) (by decide) (by decide) k) ?_
  show own_Fin p e below _ (T1.setTop (mkF m 29 #[.val (.int p0), .val (.int (2 : Int32)), .val (.ref w_GREATER_THAN), .unset, .unset] []))
  refine own_st (fun t k => XS.iconst X1.here hx rfl (hb hby at_29) k) ?_
  show own_Fin p e below _ (T1.setTop (mkF m 30 #[.val (.int p0), .val (.int (2 : Int32)), .val (.ref w_GREATER_THAN), .unset, .unset] [(.int (0 : Int32))]))
  refine own_st (fun t k => XS.istoreN X1.here hx rfl (hb hby at_30) rfl (l' := #[.val (.int p0), .val (.int (2 : Int32)), .val (.ref w_GREATER_THAN), .val (.int (0 : Int32)), .unset]) rfl k) ?_
  show own_Fin p e below _ (T1.setTop (mkF m 31 #[.val (.int p0), .val (.int (2 : Int32)), .val (.ref w_GREATER_THAN), .val (.int (0 : Int32)), .unset] []))
  refine own_st (fun t k => XS.aloadN X1.here hx rfl (hb hby at_31) rfl rfl k) ?_
  show own_Fin p e below _ (T1.setTop (mkF m 32 #[.val (.int p0), .val (.int (2 : Int32)), .val (.ref w_GREATER_THAN), .val (.int (0 : Int32)), .unset] [(.ref w_GREATER_THAN)]))
  obtain ⟨cq2, kq2, q2a, q2b, q2c⟩ := isOf hZ e1 E_GREATER_THAN
  obtain ⟨_, _, ⟨T2, L2, k2, n2⟩, -, X2, ⟨Lc2, hQ2, l2, y2, z2⟩, st2⟩ := X1.virtualBack hx (y := (⟨"com/example/rootward/rootward/jdbc/Condition$Operator", "testsTruth", "()Z"⟩ : MethodName)) (z := (⟨"com/example/rootward/rootward/jdbc/Condition$Operator", "testsTruth", "()Z"⟩ : MethodName)) hown (mvT hZ (hw _ (List.mem_of_getElem? (i := 8) rfl))) (mvT hZ (hw _ (List.mem_of_getElem? (i := 9) rfl))) (notFace_of_selects (args := #[]) (mvT hZ (hw _ (List.mem_of_getElem? (i := 11) rfl)))) (mvT hZ (hw _ (List.mem_of_getElem? (i := 11) rfl))) (mvT hZ (hw _ (List.mem_of_getElem? (i := 10) rfl))) (by decide) (backOf (W := 0) (rm2_w_GREATER_THAN l Z a0 hw [] w_EQUAL w_IS_TRUE w_IS_FALSE w_GREATER_THAN_OR_EQUAL w_IS_NULL w_IS_NOT_NULL w_STARTING_WITH w_NOT_BETWEEN w_GREATER_THAN w_IN w_NOT_EQUAL w_NOT_IN w_ENDING_WITH w_BETWEEN w_NOT_CONTAINING w_CONTAINING w_LIKE w_LESS_THAN_OR_EQUAL w_LESS_THAN w_NOT_LIKE h0 n0 PN) hZ (hw _ (List.mem_of_getElem? (i := 12) rfl)) (hw _ (List.mem_of_getElem? (i := 6) rfl)) (by decide) (by decide)) q2a q2c (g := (mkF m 32 #[.val (.int p0), .val (.int (2 : Int32)), .val (.ref w_GREATER_THAN), .val (.int (0 : Int32)), .unset] [(.ref w_GREATER_THAN)])) rfl (by rw [hml]; rfl) (Steps.refl _) (argsL := []) (rest := []) (lenOf pd___Z rfl) rfl (by show 2 * 0 + _ ≤ _; exact Nat.le_of_eq rfl) (hb hby at_32) (fun _ _ => ⟨rfl, e1, (by decide : 0 + 0 ≤ _), (by decide : 0 + 0 ≤ _)⟩)
  dsimp only [Pt.U, Pt.locs, Pt.cells, Pt.slots] at X2 l2 y2 z2 st2 hQ2
  subst l2 y2 z2
  obtain ⟨rfl, N2q, e2⟩ := hQ2
  have N2 := Fr.app N1 N2q
  refine own_tr st2 ?_
  show own_Fin p e below _ (T2.setTop (mkF m 35 #[.val (.int p0), .val (.int (2 : Int32)), .val (.ref w_GREATER_THAN), .val (.int (0 : Int32)), .unset] [(.int (0 : Int32))]))
  refine own_st (fun t k => XS.istore X2.here hx rfl (hb hby at_35) rfl (l' := #[.val (.int p0), .val (.int (2 : Int32)), .val (.ref w_GREATER_THAN), .val (.int (0 : Int32)), .val (.int (0 : Int32))]) rfl k) ?_
  show own_Fin p e below _ (T2.setTop (mkF m 37 #[.val (.int p0), .val (.int (2 : Int32)), .val (.ref w_GREATER_THAN), .val (.int (0 : Int32)), .val (.int (0 : Int32))] []))
  refine own_st (fun t k => XS.iload X2.here hx rfl (hb hby at_37) rfl k) ?_
  show own_Fin p e below _ (T2.setTop (mkF m 39 #[.val (.int p0), .val (.int (2 : Int32)), .val (.ref w_GREATER_THAN), .val (.int (0 : Int32)), .val (.int (0 : Int32))] [(.int (0 : Int32))]))
  refine own_st (fun t k => XS.iloadN X2.here hx rfl (hb hby at_39) rfl k) ?_
  show own_Fin p e below _ (T2.setTop (mkF m 40 #[.val (.int p0), .val (.int (2 : Int32)), .val (.ref w_GREATER_THAN), .val (.int (0 : Int32)), .val (.int (0 : Int32))] [(.int (0 : Int32)), (.int (0 : Int32))]))
  refine own_st (fun t k => XS.icmpYes X2.here hx rfl (pc0 := 40) (pc' := 45) rfl (hb hby at_40) rfl (by decide) (by decide) (by decide) k) ?_
  show own_Fin p e below _ (T2.setTop (mkF m 45 #[.val (.int p0), .val (.int (2 : Int32)), .val (.ref w_GREATER_THAN), .val (.int (0 : Int32)), .val (.int (0 : Int32))] []))
  refine own_st (fun t k => XS.iload X2.here hx rfl (hb hby at_45) rfl k) ?_
  show own_Fin p e below _ (T2.setTop (mkF m 47 #[.val (.int p0), .val (.int (2 : Int32)), .val (.ref w_GREATER_THAN), .val (.int (0 : Int32)), .val (.int (0 : Int32))] [(.int (0 : Int32))]))
  refine own_st (fun t k => XS.ifYes X2.here hx rfl (pc0 := 47) (pc' := 73) rfl (hb hby at_47) rfl (by decide) (by decide) (by decide) k) ?_
  show own_Fin p e below _ (T2.setTop (mkF m 73 #[.val (.int p0), .val (.int (2 : Int32)), .val (.ref w_GREATER_THAN), .val (.int (0 : Int32)), .val (.int (0 : Int32))] []))
  refine own_st (fun t k => XS.iconst X2.here hx rfl (hb hby at_73) k) ?_
  show own_Fin p e below _ (T2.setTop (mkF m 74 #[.val (.int p0), .val (.int (2 : Int32)), .val (.ref w_GREATER_THAN), .val (.int (0 : Int32)), .val (.int (0 : Int32))] [(.int (1 : Int32))]))
  obtain ⟨fs, hr, hrun, hended, hW, hsame⟩ := X2.leave (v := some (.int (1 : Int32))) (fun h => by rw [Bd.returns] at h; cases h)
  exact ⟨_, _, retN X2 hx (t := .boolean) Bd.returns (by simp) (hb hby at_74) hr, hrun, hended, _, _, rfl, ⟨rfl, N2, e2⟩, ⟨_, rfl⟩, hW, hsame.mono (by decide) (by decide)⟩
theorem d1_104 : decode method_2_code 104 = .ok (.getstatic 19, 3) := by decide +kernel
theorem d1_107 : decode method_2_code 107 = .ok (.areturn, 1) := by decide +kernel
set_option maxRecDepth 65536 in
set_option maxHeartbeats 40000000 in
theorem rm1_3 (l : Launch) (Z : State) (a0 : Array Value) (hw : ∀ d ∈ tables_1, d.before a0 Z = true) (ws : List Jvm.Cond) (w_EQUAL w_IS_TRUE w_IS_FALSE w_GREATER_THAN_OR_EQUAL w_IS_NULL w_IS_NOT_NULL w_STARTING_WITH w_NOT_BETWEEN w_GREATER_THAN w_IN w_NOT_EQUAL w_NOT_IN w_ENDING_WITH w_BETWEEN w_NOT_CONTAINING w_CONTAINING w_LIKE w_LESS_THAN_OR_EQUAL w_LESS_THAN w_NOT_LIKE : Addr) (h0 : Heap) (n0 : Nat) (PN : own_Pins Z h0 w_EQUAL w_IS_TRUE w_IS_FALSE w_GREATER_THAN_OR_EQUAL w_IS_NULL w_IS_NOT_NULL w_STARTING_WITH w_NOT_BETWEEN w_GREATER_THAN w_IN w_NOT_EQUAL w_NOT_IN w_ENDING_WITH w_BETWEEN w_NOT_CONTAINING w_CONTAINING w_LIKE w_LESS_THAN_OR_EQUAL w_LESS_THAN w_NOT_LIKE) :
    MetFree l (⟨"com/example/rootward/rootward/jdbc/OperatorTestsTruthPinLaw", "pick", "(I)Lcom/example/rootward/rootward/jdbc/Condition$Operator;"⟩ : MethodName) (head1 (Jvm.Cond.code (⟨"com/example/rootward/rootward/jdbc/OperatorTestsTruthPinLaw", "pick", "(I)Lcom/example/rootward/rootward/jdbc/Condition$Operator;"⟩ : MethodName) method_2_code 1 (some (.object "com/example/rootward/rootward/jdbc/Condition$Operator")) :: ws) ({ frames := 0, cells := 0, slots := 0, locals := 0 } : Room)) (fun a U => a = #[(.int (3 : Int32))] ∧ Z.Warmed39 U.vm ∧ U.heap = h0) (fun _ _ _ _ _ => True) (fun _ U o U' => ∃ v L, o = .returned v ∧ own_Q h0 n0 (some (.ref w_GREATER_THAN_OR_EQUAL)) v U'.heap L ∧ FrameEnd U o U' L ({ frames := 0, cells := 0, slots := 0, locals := 0 } : Room).cells ({ frames := 0, cells := 0, slots := 0, locals := 0 } : Room).slots) := by
  have S_GREATER_THAN_OR_EQUAL : Sta Z h0 "com/example/rootward/rootward/jdbc/Condition$Operator" "GREATER_THAN_OR_EQUAL" "Lcom/example/rootward/rootward/jdbc/Condition$Operator;" (.ref w_GREATER_THAN_OR_EQUAL) := PN.2.2.2.2.2.2.1
  refine MetFree.of_bodySF (plainFor_of_name pn_com_example_rootward_rootward_jdbc_OperatorTestsTruthPinLaw) hisR ?_
  intro p e s m args below meth c s₁ Bd hml0 hP hK
  obtain ⟨rfl, hZ, hh⟩ := hP
  have hx := Bd.exec
  have hby := Bd.bytes
  have hml : c.maxLocals = 1 := hml0
  have hown : s.vm.findClass "com/example/rootward/rootward/jdbc/OperatorTestsTruthPinLaw" = some m.cls := findClass_of_methodNamed Bd.named
  have X0 : Stand p l e ({ frames := 0, cells := 0, slots := 0, locals := 0 } : Room) s m #[(.int (3 : Int32))] below meth c s₁ [] 0 0 := Stand.of_body Bd
  have e0 : s₁.heap = h0 := by rw [← hh, Bd.state]; rfl
  have N0 := Fr.nil n0
  refine (?_ : own_Fin p e below _ _)
  refine own_st (fun t k => castTop (ef_1_I m (3 : Int32)) k) ?_
  show own_Fin p e below _ (s₁.setTop (mkF m 0 #[.val (.int (3 : Int32))] []))
  refine own_st (fun t k => XS.iloadN X0.here hx rfl (hb hby d1_0) rfl k) ?_
  show own_Fin p e below _ (s₁.setTop (mkF m 1 #[.val (.int (3 : Int32))] [(.int (3 : Int32))]))
  refine own_st (fun t k => XS.tswIn X0.here hx rfl (pc0 := 1) (pc' := 104) rfl (hb hby d1_1) rfl (by decide) (o := 103) (by decide) (by decide) (by decide) k) ?_
  show own_Fin p e below _ (s₁.setTop (mkF m 104 #[.val (.int (3 : Int32))] []))
  obtain ⟨T1, X1, e1, st1⟩ := getS2 X0 hx hZ hown (host := "") (Or.inl (hw _ (List.mem_of_getElem? (i := 17) rfl))) Via.refl e0 S_GREATER_THAN_OR_EQUAL (g := (mkF m 104 #[.val (.int (3 : Int32))] [])) rfl (hb hby d1_104)
  refine own_st st1 ?_
  show own_Fin p e below _ (T1.setTop (mkF m 107 #[.val (.int (3 : Int32))] [(.ref w_GREATER_THAN_OR_EQUAL)]))
  obtain ⟨fs, hr, hrun, hended, hW, hsame⟩ := X1.leave (v := some (.ref w_GREATER_THAN_OR_EQUAL)) (fun h => by rw [Bd.returns] at h; cases h)
  exact ⟨_, _, retOut X1 hx (t := (.object "com/example/rootward/rootward/jdbc/Condition$Operator")) Bd.returns rfl (Or.inr (Or.inr (Or.inr (Or.inr ⟨rfl, rfl, rfl⟩)))) (hb hby d1_107) hr, hrun, hended, _, _, rfl, ⟨rfl, N0, e1⟩, ⟨_, rfl⟩, hW, hsame.mono (by decide) (by decide)⟩
set_option maxRecDepth 65536 in
set_option maxHeartbeats 40000000 in
theorem rm2_w_GREATER_THAN_OR_EQUAL (l : Launch) (Z : State) (a0 : Array Value) (hw : ∀ d ∈ tables_1, d.before a0 Z = true) (ws : List Jvm.Cond) (w_EQUAL w_IS_TRUE w_IS_FALSE w_GREATER_THAN_OR_EQUAL w_IS_NULL w_IS_NOT_NULL w_STARTING_WITH w_NOT_BETWEEN w_GREATER_THAN w_IN w_NOT_EQUAL w_NOT_IN w_ENDING_WITH w_BETWEEN w_NOT_CONTAINING w_CONTAINING w_LIKE w_LESS_THAN_OR_EQUAL w_LESS_THAN w_NOT_LIKE : Addr) (h0 : Heap) (n0 : Nat) (PN : own_Pins Z h0 w_EQUAL w_IS_TRUE w_IS_FALSE w_GREATER_THAN_OR_EQUAL w_IS_NULL w_IS_NOT_NULL w_STARTING_WITH w_NOT_BETWEEN w_GREATER_THAN w_IN w_NOT_EQUAL w_NOT_IN w_ENDING_WITH w_BETWEEN w_NOT_CONTAINING w_CONTAINING w_LIKE w_LESS_THAN_OR_EQUAL w_LESS_THAN w_NOT_LIKE) :
    MetFree l (⟨"com/example/rootward/rootward/jdbc/Condition$Operator", "testsTruth", "()Z"⟩ : MethodName) (head1 (Jvm.Cond.code (⟨"com/example/rootward/rootward/jdbc/Condition$Operator", "testsTruth", "()Z"⟩ : MethodName) prog_32_method_8_code 1 (some .boolean) :: ws) ({ frames := 0, cells := 0, slots := 0, locals := 0 } : Room)) (fun a U => a = #[(.ref w_GREATER_THAN_OR_EQUAL)] ∧ Z.Warmed39 U.vm ∧ U.heap = h0) (fun _ _ _ _ _ => True) (fun _ U o U' => ∃ v L, o = .returned v ∧ own_Q h0 n0 (some (.int (0 : Int32))) v U'.heap L ∧ FrameEnd U o U' L ({ frames := 0, cells := 0, slots := 0, locals := 0 } : Room).cells ({ frames := 0, cells := 0, slots := 0, locals := 0 } : Room).slots) := by
  have S_IS_TRUE : Sta Z h0 "com/example/rootward/rootward/jdbc/Condition$Operator" "IS_TRUE" "Lcom/example/rootward/rootward/jdbc/Condition$Operator;" (.ref w_IS_TRUE) := PN.2.2.1
  have S_IS_FALSE : Sta Z h0 "com/example/rootward/rootward/jdbc/Condition$Operator" "IS_FALSE" "Lcom/example/rootward/rootward/jdbc/Condition$Operator;" (.ref w_IS_FALSE) := PN.2.2.2.2.1
  have F_IS_TRUE_ordinal : Fld Z h0 w_IS_TRUE "java/lang/Enum" "ordinal" "I" (.int 18) := PN.2.2.2.2.2.2.2.2.2.2.2.2.2.2.2.2.2.2.2.2.2.2.2.2.2.2.2.2.2.2.2.2.2.2.2.2.2.2.2.2.2.1
  have F_IS_FALSE_ordinal : Fld Z h0 w_IS_FALSE "java/lang/Enum" "ordinal" "I" (.int 19) := PN.2.2.2.2.2.2.2.2.2.2.2.2.2.2.2.2.2.2.2.2.2.2.2.2.2.2.2.2.2.2.2.2.2.2.2.2.2.2.2.2.2.2.1
  have F_GREATER_THAN_OR_EQUAL_ordinal : Fld Z h0 w_GREATER_THAN_OR_EQUAL "java/lang/Enum" "ordinal" "I" (.int 3) := PN.2.2.2.2.2.2.2.2.2.2.2.2.2.2.2.2.2.2.2.2.2.2.2.2.2.2.2.2.2.2.2.2.2.2.2.2.2.2.2.2.2.2.2.1
  refine MetFree.of_bodySF (plainFor_of_name pn_com_example_rootward_rootward_jdbc_Condition_Operator) hisR ?_
  intro p e s m args below meth c s₁ Bd hml0 hP hK
  obtain ⟨rfl, hZ, hh⟩ := hP
  have hx := Bd.exec
  have hby := Bd.bytes
  have hml : c.maxLocals = 1 := hml0
  have hown : s.vm.findClass "com/example/rootward/rootward/jdbc/Condition$Operator" = some m.cls := findClass_of_methodNamed Bd.named
  have X0 : Stand p l e ({ frames := 0, cells := 0, slots := 0, locals := 0 } : Room) s m #[(.ref w_GREATER_THAN_OR_EQUAL)] below meth c s₁ [] 0 0 := Stand.of_body Bd
  have e0 : s₁.heap = h0 := by rw [← hh, Bd.state]; rfl
  have N0 := Fr.nil n0
  refine (?_ : own_Fin p e below _ _)
  refine own_st (fun t k => castTop (ef_2_R m w_GREATER_THAN_OR_EQUAL) k) ?_
  show own_Fin p e below _ (s₁.setTop (mkF m 0 #[.val (.ref w_GREATER_THAN_OR_EQUAL)] []))
  refine own_st (fun t k => XS.aloadN X0.here hx rfl (hb hby d2_0) rfl rfl k) ?_
  show own_Fin p e below _ (s₁.setTop (mkF m 1 #[.val (.ref w_GREATER_THAN_OR_EQUAL)] [(.ref w_GREATER_THAN_OR_EQUAL)]))
  obtain ⟨T1, X1, e1, st1⟩ := getS2 X0 hx hZ hown (host := "") (Or.inl (hw _ (List.mem_of_getElem? (i := 13) rfl))) Via.refl e0 S_IS_TRUE (g := (mkF m 1 #[.val (.ref w_GREATER_THAN_OR_EQUAL)] [(.ref w_GREATER_THAN_OR_EQUAL)])) rfl (hb hby d2_1)
  refine own_st st1 ?_
  show own_Fin p e below _ (T1.setTop (mkF m 4 #[.val (.ref w_GREATER_THAN_OR_EQUAL)] [(.ref w_IS_TRUE), (.ref w_GREATER_THAN_OR_EQUAL)]))
  refine own_st (fun t k => Jvm.RoadKit.acmp (g := (mkF m 4 #[.val (.ref w_GREATER_THAN_OR_EQUAL)] [(.ref w_IS_TRUE), (.ref w_GREATER_THAN_OR_EQUAL)])) X1 hx rfl rfl rfl (pc0 := 4) (pc' := 7) (same := false) rfl (hb hby d2_4) rfl (decide_eq_false fun q => (Fld.ne F_GREATER_THAN_OR_EQUAL_ordinal F_IS_TRUE_ordinal (by simp)) (Value.ref.inj q)) (by decide) (by decide) k) ?_
  show own_Fin p e below _ (T1.setTop (mkF m 7 #[.val (.ref w_GREATER_THAN_OR_EQUAL)] []))
  refine own_st (fun t k => XS.aloadN X1.here hx rfl (hb hby d2_7) rfl rfl k) ?_
  show own_Fin p e below _ (T1.setTop (mkF m 8 #[.val (.ref w_GREATER_THAN_OR_EQUAL)] [(.ref w_GREATER_THAN_OR_EQUAL)]))
  obtain ⟨T2, X2, e2, st2⟩ := getS2 X1 hx hZ hown (host := "") (Or.inl (hw _ (List.mem_of_getElem? (i := 15) rfl))) Via.refl e1 S_IS_FALSE (g := (mkF m 8 #[.val (.ref w_GREATER_THAN_OR_EQUAL)] [(.ref w_GREATER_THAN_OR_EQUAL)])) rfl (hb hby d2_8)
  refine own_st st2 ?_
  show own_Fin p e below _ (T2.setTop (mkF m 11 #[.val (.ref w_GREATER_THAN_OR_EQUAL)] [(.ref w_IS_FALSE), (.ref w_GREATER_THAN_OR_EQUAL)]))
  refine own_st (fun t k => Jvm.RoadKit.acmp (g := (mkF m 11 #[.val (.ref w_GREATER_THAN_OR_EQUAL)] [(.ref w_IS_FALSE), (.ref w_GREATER_THAN_OR_EQUAL)])) X2 hx rfl rfl rfl (pc0 := 11) (pc' := 18) (same := false) rfl (hb hby d2_11) rfl (decide_eq_false fun q => (Fld.ne F_GREATER_THAN_OR_EQUAL_ordinal F_IS_FALSE_ordinal (by simp)) (Value.ref.inj q)) (by decide) (by decide) k) ?_
  show own_Fin p e below _ (T2.setTop (mkF m 18 #[.val (.ref w_GREATER_THAN_OR_EQUAL)] []))
  refine own_st (fun t k => XS.iconst X2.here hx rfl (hb hby d2_18) k) ?_
  show own_Fin p e below _ (T2.setTop (mkF m 19 #[.val (.ref w_GREATER_THAN_OR_EQUAL)] [(.int (0 : Int32))]))
  obtain ⟨fs, hr, hrun, hended, hW, hsame⟩ := X2.leave (v := some (.int (0 : Int32))) (fun h => by rw [Bd.returns] at h; cases h)
  exact ⟨_, _, retN X2 hx (t := .boolean) Bd.returns (by simp) (hb hby d2_19) hr, hrun, hended, _, _, rfl, ⟨rfl, N0, e2⟩, ⟨_, rfl⟩, hW, hsame.mono (by decide) (by decide)⟩
set_option maxRecDepth 65536 in
set_option maxHeartbeats 40000000 in
theorem rm0_c3 (l : Launch) (Z : State) (a0 : Array Value) (hw : ∀ d ∈ tables_1, d.before a0 Z = true) (ws : List Jvm.Cond) (w_EQUAL w_IS_TRUE w_IS_FALSE w_GREATER_THAN_OR_EQUAL w_IS_NULL w_IS_NOT_NULL w_STARTING_WITH w_NOT_BETWEEN w_GREATER_THAN w_IN w_NOT_EQUAL w_NOT_IN w_ENDING_WITH w_BETWEEN w_NOT_CONTAINING w_CONTAINING w_LIKE w_LESS_THAN_OR_EQUAL w_LESS_THAN w_NOT_LIKE : Addr) (p0 : Int32) (h0 : Heap) (n0 : Nat) (PN : own_Pins Z h0 w_EQUAL w_IS_TRUE w_IS_FALSE w_GREATER_THAN_OR_EQUAL w_IS_NULL w_IS_NOT_NULL w_STARTING_WITH w_NOT_BETWEEN w_GREATER_THAN w_IN w_NOT_EQUAL w_NOT_IN w_ENDING_WITH w_BETWEEN w_NOT_CONTAINING w_CONTAINING w_LIKE w_LESS_THAN_OR_EQUAL w_LESS_THAN w_NOT_LIKE) (q0 : ((p0 &&& (2147483647 : Int32)) % (20 : Int32)) = (3 : Int32)) :
    MetFree l x (head1 (Jvm.Cond.code x code maxLocals ret :: ws) room_1) (fun a U => a = #[(.int p0)] ∧ Z.Warmed39 U.vm ∧ U.heap = h0) (fun _ _ _ _ _ => True) (fun _ U o U' => ∃ v L, o = .returned v ∧ own_Q h0 n0 (some (.int (1 : Int32))) v U'.heap L ∧ FrameEnd U o U' L room_1.cells room_1.slots) := by
  have E_GREATER_THAN_OR_EQUAL : Exa Z h0 w_GREATER_THAN_OR_EQUAL "com/example/rootward/rootward/jdbc/Condition$Operator" := PN.2.2.2.2.2.2.2.1
  refine MetFree.of_bodySF (plainFor_of_name pn_com_example_rootward_rootward_jdbc_OperatorTestsTruthPinLaw) hisR ?_
  intro p e s m args below meth c s₁ Bd hml0 hP hK
  obtain ⟨rfl, hZ, hh⟩ := hP
  have hx := Bd.exec
  have hby := Bd.bytes
  have hml : c.maxLocals = 5 := hml0
  have hown : s.vm.findClass "com/example/rootward/rootward/jdbc/OperatorTestsTruthPinLaw" = some m.cls := findClass_of_methodNamed Bd.named
  have X0 : Stand p l e room_1 s m #[(.int p0)] below meth c s₁ [] 0 0 := Stand.of_body Bd
  have e0 : s₁.heap = h0 := by rw [← hh, Bd.state]; rfl
  have N0 := Fr.nil n0
  refine (?_ : own_Fin p e below _ _)
  refine own_st (fun t k => castTop (ef_0_I m p0) k) ?_
  show own_Fin p e below _ (s₁.setTop (mkF m 0 #[.val (.int p0), .unset, .unset, .unset, .unset] []))
  refine own_st (fun t k => XS.iloadN X0.here hx rfl (hb hby at_0) rfl k) ?_
  show own_Fin p e below _ (s₁.setTop (mkF m 1 #[.val (.int p0), .unset, .unset, .unset, .unset] [(.int p0)]))
  refine own_st (fun t k => X0.ldcI hx hown (mvT hZ (hw _ (List.mem_of_getElem? (i := 0) rfl))) rfl (hb hby at_1) k) ?_
  show own_Fin p e below _ (s₁.setTop (mkF m 3 #[.val (.int p0), .unset, .unset, .unset, .unset] [(.int (2147483647 : Int32)), (.int p0)]))
  refine own_st (fun t k => XS.iand X0.here hx rfl (hb hby at_3) rfl k) ?_
  show own_Fin p e below _ (s₁.setTop (mkF m 4 #[.val (.int p0), .unset, .unset, .unset, .unset] [(.int (p0 &&& (2147483647 : Int32)))]))
  refine own_st (fun t k => XS.bipush X0.here hx rfl (hb hby at_4) k) ?_
  show own_Fin p e below _ (s₁.setTop (mkF m 6 #[.val (.int p0), .unset, .unset, .unset, .unset] [(.int (20 : Int32)), (.int (p0 &&& (2147483647 : Int32)))]))
  refine own_st (fun t k => iremM X0 hx rfl (hb hby at_6) rfl (by decide) k) ?_
  show own_Fin p e below _ (s₁.setTop (mkF m 7 #[.val (.int p0), .unset, .unset, .unset, .unset] [(.int ((p0 &&& (2147483647 : Int32)) % (20 : Int32)))]))
  rw [q0]
  show own_Fin p e below _ (s₁.setTop (mkF m 7 #[.val (.int p0), .unset, .unset, .unset, .unset] [(.int (3 : Int32))]))
  refine own_st (fun t k => XS.istoreN X0.here hx rfl (hb hby at_7) rfl (l' := #[.val (.int p0), .val (.int (3 : Int32)), .unset, .unset, .unset]) rfl k) ?_
  show own_Fin p e below _ (s₁.setTop (mkF m 8 #[.val (.int p0), .val (.int (3 : Int32)), .unset, .unset, .unset] []))
  refine own_st (fun t k => XS.iloadN X0.here hx rfl (hb hby at_8) rfl k) ?_
  show own_Fin p e below _ (s₁.setTop (mkF m 9 #[.val (.int p0), .val (.int (3 : Int32)), .unset, .unset, .unset] [(.int (3 : Int32))]))
  obtain ⟨_, _, ⟨T1, L1, k1, n1⟩, -, X1, ⟨Lc1, hQ1, l1, y1, z1⟩, st1⟩ := Jvm.LawKit.callS X0 hx (y := (⟨"com/example/rootward/rootward/jdbc/OperatorTestsTruthPinLaw", "pick", "(I)Lcom/example/rootward/rootward/jdbc/Condition$Operator;"⟩ : MethodName)) hown (mvT hZ (hw _ (List.mem_of_getElem? (i := 1) rfl))) (mvT hZ (hw _ (List.mem_of_getElem? (i := 2) rfl))) (mvT hZ (hw _ (List.mem_of_getElem? (i := 3) rfl))) (mvT hZ (hw _ (List.mem_of_getElem? (i := 4) rfl))) (by decide) (backOf (W := 0) (rm1_3 l Z a0 hw [] w_EQUAL w_IS_TRUE w_IS_FALSE w_GREATER_THAN_OR_EQUAL w_IS_NULL w_IS_NOT_NULL w_STARTING_WITH w_NOT_BETWEEN w_GREATER_THAN w_IN w_NOT_EQUAL w_NOT_IN w_ENDING_WITH w_BETWEEN w_NOT_CONTAINING w_CONTAINING w_LIKE w_LESS_THAN_OR_EQUAL w_LESS_THAN w_NOT_LIKE h0 n0 PN) hZ (hw _ (List.mem_of_getElem? (i := 4) rfl)) (hw _ (List.mem_of_getElem? (i := 3) rfl)) (by decide) (by decide)) (g := (mkF m 9 #[.val (.int p0), .val (.int (3 : Int32)), .unset, .unset, .unset] [(.int (3 : Int32))])) rfl (by rw [hml]; rfl) (argsL := [(.int (3 : Int32))]) (rest := []) (lenOf pd__I_Lcom_example_rootward_rootward_jdbc_Condition_Operator_ rfl) rfl (by show 2 * 0 + _ ≤ _; exact Nat.le_of_eq rfl) (hb hby at_9) (fun _ _ => ⟨rfl, e0, (by decide : 0 + 0 ≤ _), (by decide : 0 + 0 ≤ _)⟩)
  dsimp only [Pt.U, Pt.locs, Pt.cells, Pt.slots] at X1 l1 y1 z1 st1 hQ1
  subst l1 y1 z1
  obtain ⟨rfl, N1q, e1⟩ := hQ1
  have N1 := Fr.app N0 N1q
  refine own_st st1 ?_
  show own_Fin p e below _ (T1.setTop (mkF m 12 #[.val (.int p0), .val (.int (3 : Int32)), .unset, .unset, .unset] [(.ref w_GREATER_THAN_OR_EQUAL)]))
  refine own_st (fun t k => XS.astoreN X1.here hx rfl (hb hby at_12) rfl rfl (l' := #[.val (.int p0), .val (.int (3 : Int32)), .val (.ref w_GREATER_THAN_OR_EQUAL), .unset, .unset]) rfl k) ?_
  show own_Fin p e below _ (T1.setTop (mkF m 13 #[.val (.int p0), .val (.int (3 : Int32)), .val (.ref w_GREATER_THAN_OR_EQUAL), .unset, .unset] []))
  refine own_st (fun t k => XS.iloadN X1.here hx rfl (hb hby at_13) rfl k) ?_
  show own_Fin p e below _ (T1.setTop (mkF m 14 #[.val (.int p0), .val (.int (3 : Int32)), .val (.ref w_GREATER_THAN_OR_EQUAL), .unset, .unset] [(.int (3 : Int32))]))
  refine own_st (fun t k => XS.bipush X1.here hx rfl (hb hby at_14) k) ?_
  show own_Fin p e below _ (T1.setTop (mkF m 16 #[.val (.int p0), .val (.int (3 : Int32)), .val (.ref w_GREATER_THAN_OR_EQUAL), .unset, .unset] [(.int (18 : Int32)), (.int (3 : Int32))]))
  refine own_st (fun t k => XS.icmpNo X1.here hx rfl (hb hby at_16) rfl (by decide) k) ?_
  show own_Fin p e below _ (T1.setTop (mkF m 19 #[.val (.int p0), .val (.int (3 : Int32)), .val (.ref w_GREATER_THAN_OR_EQUAL), .unset, .unset] []))
  refine own_st (fun t k => XS.iloadN X1.here hx rfl (hb hby at_19) rfl k) ?_
  show own_Fin p e below _ (T1.setTop (mkF m 20 #[.val (.int p0), .val (.int (3 : Int32)), .val (.ref w_GREATER_THAN_OR_EQUAL), .unset, .unset] [(.int (3 : Int32))]))
  refine own_st (fun t k => XS.bipush X1.here hx rfl (hb hby at_20) k) ?_
  show own_Fin p e below _ (T1.setTop (mkF m 22 #[.val (.int p0), .val (.int (3 : Int32)), .val (.ref w_GREATER_THAN_OR_EQUAL), .unset, .unset] [(.int (19 : Int32)), (.int (3 : Int32))]))
  refine own_st (fun t k => XS.icmpYes X1.here hx rfl (pc0 := 22) (pc' := 29) rfl (hb hby at_22) rfl (by decide) (by decide) (by decide) k) ?_
  show own_Fin p e below _ (T1.setTop (mkF m 29 #[.val (.int p0), .val (.int (3 : Int32)), .val (.ref w_GREATER_THAN_OR_EQUAL), .unset, .unset] []))
  refine own_st (fun t k => XS.iconst X1.here hx rfl (hb hby at_29) k) ?_
  show own_Fin p e below _ (T1.setTop (mkF m 30 #[.val (.int p0), .val (.int (3 : Int32)), .val (.ref w_GREATER_THAN_OR_EQUAL), .unset, .unset] [(.int (0 : Int32))]))
  refine own_st (fun t k => XS.istoreN X1.here hx rfl (hb hby at_30) rfl (l' := #[.val (.int p0), .val (.int (3 : Int32)), .val (.ref w_GREATER_THAN_OR_EQUAL), .val (.int (0 : Int32)), .unset]) rfl k) ?_
  show own_Fin p e below _ (T1.setTop (mkF m 31 #[.val (.int p0), .val (.int (3 : Int32)), .val (.ref w_GREATER_THAN_OR_EQUAL), .val (.int (0 : Int32)), .unset] []))
  refine own_st (fun t k => XS.aloadN X1.here hx rfl (hb hby at_31) rfl rfl k) ?_
  show own_Fin p e below _ (T1.setTop (mkF m 32 #[.val (.int p0), .val (.int (3 : Int32)), .val (.ref w_GREATER_THAN_OR_EQUAL), .val (.int (0 : Int32)), .unset] [(.ref w_GREATER_THAN_OR_EQUAL)]))
  obtain ⟨cq2, kq2, q2a, q2b, q2c⟩ := isOf hZ e1 E_GREATER_THAN_OR_EQUAL
  obtain ⟨_, _, ⟨T2, L2, k2, n2⟩, -, X2, ⟨Lc2, hQ2, l2, y2, z2⟩, st2⟩ := X1.virtualBack hx (y := (⟨"com/example/rootward/rootward/jdbc/Condition$Operator", "testsTruth", "()Z"⟩ : MethodName)) (z := (⟨"com/example/rootward/rootward/jdbc/Condition$Operator", "testsTruth", "()Z"⟩ : MethodName)) hown (mvT hZ (hw _ (List.mem_of_getElem? (i := 8) rfl))) (mvT hZ (hw _ (List.mem_of_getElem? (i := 9) rfl))) (notFace_of_selects (args := #[]) (mvT hZ (hw _ (List.mem_of_getElem? (i := 11) rfl)))) (mvT hZ (hw _ (List.mem_of_getElem? (i := 11) rfl))) (mvT hZ (hw _ (List.mem_of_getElem? (i := 10) rfl))) (by decide) (backOf (W := 0) (rm2_w_GREATER_THAN_OR_EQUAL l Z a0 hw [] w_EQUAL w_IS_TRUE w_IS_FALSE w_GREATER_THAN_OR_EQUAL w_IS_NULL w_IS_NOT_NULL w_STARTING_WITH w_NOT_BETWEEN w_GREATER_THAN w_IN w_NOT_EQUAL w_NOT_IN w_ENDING_WITH w_BETWEEN w_NOT_CONTAINING w_CONTAINING w_LIKE w_LESS_THAN_OR_EQUAL w_LESS_THAN w_NOT_LIKE h0 n0 PN) hZ (hw _ (List.mem_of_getElem? (i := 12) rfl)) (hw _ (List.mem_of_getElem? (i := 6) rfl)) (by decide) (by decide)) q2a q2c (g := (mkF m 32 #[.val (.int p0), .val (.int (3 : Int32)), .val (.ref w_GREATER_THAN_OR_EQUAL), .val (.int (0 : Int32)), .unset] [(.ref w_GREATER_THAN_OR_EQUAL)])) rfl (by rw [hml]; rfl) (Steps.refl _) (argsL := []) (rest := []) (lenOf pd___Z rfl) rfl (by show 2 * 0 + _ ≤ _; exact Nat.le_of_eq rfl) (hb hby at_32) (fun _ _ => ⟨rfl, e1, (by decide : 0 + 0 ≤ _), (by decide : 0 + 0 ≤ _)⟩)
  dsimp only [Pt.U, Pt.locs, Pt.cells, Pt.slots] at X2 l2 y2 z2 st2 hQ2
  subst l2 y2 z2
  obtain ⟨rfl, N2q, e2⟩ := hQ2
  have N2 := Fr.app N1 N2q
  refine own_tr st2 ?_
  show own_Fin p e below _ (T2.setTop (mkF m 35 #[.val (.int p0), .val (.int (3 : Int32)), .val (.ref w_GREATER_THAN_OR_EQUAL), .val (.int (0 : Int32)), .unset] [(.int (0 : Int32))]))
  refine own_st (fun t k => XS.istore X2.here hx rfl (hb hby at_35) rfl (l' := #[.val (.int p0), .val (.int (3 : Int32)), .val (.ref w_GREATER_THAN_OR_EQUAL), .val (.int (0 : Int32)), .val (.int (0 : Int32))]) rfl k) ?_
  show own_Fin p e below _ (T2.setTop (mkF m 37 #[.val (.int p0), .val (.int (3 : Int32)), .val (.ref w_GREATER_THAN_OR_EQUAL), .val (.int (0 : Int32)), .val (.int (0 : Int32))] []))
  refine own_st (fun t k => XS.iload X2.here hx rfl (hb hby at_37) rfl k) ?_
  show own_Fin p e below _ (T2.setTop (mkF m 39 #[.val (.int p0), .val (.int (3 : Int32)), .val (.ref w_GREATER_THAN_OR_EQUAL), .val (.int (0 : Int32)), .val (.int (0 : Int32))] [(.int (0 : Int32))]))
  refine own_st (fun t k => XS.iloadN X2.here hx rfl (hb hby at_39) rfl k) ?_
  show own_Fin p e below _ (T2.setTop (mkF m 40 #[.val (.int p0), .val (.int (3 : Int32)), .val (.ref w_GREATER_THAN_OR_EQUAL), .val (.int (0 : Int32)), .val (.int (0 : Int32))] [(.int (0 : Int32)), (.int (0 : Int32))]))
  refine own_st (fun t k => XS.icmpYes X2.here hx rfl (pc0 := 40) (pc' := 45) rfl (hb hby at_40) rfl (by decide) (by decide) (by decide) k) ?_
  show own_Fin p e below _ (T2.setTop (mkF m 45 #[.val (.int p0), .val (.int (3 : Int32)), .val (.ref w_GREATER_THAN_OR_EQUAL), .val (.int (0 : Int32)), .val (.int (0 : Int32))] []))
  refine own_st (fun t k => XS.iload X2.here hx rfl (hb hby at_45) rfl k) ?_
  show own_Fin p e below _ (T2.setTop (mkF m 47 #[.val (.int p0), .val (.int (3 : Int32)), .val (.ref w_GREATER_THAN_OR_EQUAL), .val (.int (0 : Int32)), .val (.int (0 : Int32))] [(.int (0 : Int32))]))
  refine own_st (fun t k => XS.ifYes X2.here hx rfl (pc0 := 47) (pc' := 73) rfl (hb hby at_47) rfl (by decide) (by decide) (by decide) k) ?_
  show own_Fin p e below _ (T2.setTop (mkF m 73 #[.val (.int p0), .val (.int (3 : Int32)), .val (.ref w_GREATER_THAN_OR_EQUAL), .val (.int (0 : Int32)), .val (.int (0 : Int32))] []))
  refine own_st (fun t k => XS.iconst X2.here hx rfl (hb hby at_73) k) ?_
  show own_Fin p e below _ (T2.setTop (mkF m 74 #[.val (.int p0), .val (.int (3 : Int32)), .val (.ref w_GREATER_THAN_OR_EQUAL), .val (.int (0 : Int32)), .val (.int (0 : Int32))] [(.int (1 : Int32))]))
  obtain ⟨fs, hr, hrun, hended, hW, hsame⟩ := X2.leave (v := some (.int (1 : Int32))) (fun h => by rw [Bd.returns] at h; cases h)
  exact ⟨_, _, retN X2 hx (t := .boolean) Bd.returns (by simp) (hb hby at_74) hr, hrun, hended, _, _, rfl, ⟨rfl, N2, e2⟩, ⟨_, rfl⟩, hW, hsame.mono (by decide) (by decide)⟩
theorem d1_108 : decode method_2_code 108 = .ok (.getstatic 22, 3) := by decide +kernel
theorem d1_111 : decode method_2_code 111 = .ok (.areturn, 1) := by decide +kernel
set_option maxRecDepth 65536 in
set_option maxHeartbeats 40000000 in
theorem rm1_4 (l : Launch) (Z : State) (a0 : Array Value) (hw : ∀ d ∈ tables_1, d.before a0 Z = true) (ws : List Jvm.Cond) (w_EQUAL w_IS_TRUE w_IS_FALSE w_GREATER_THAN_OR_EQUAL w_IS_NULL w_IS_NOT_NULL w_STARTING_WITH w_NOT_BETWEEN w_GREATER_THAN w_IN w_NOT_EQUAL w_NOT_IN w_ENDING_WITH w_BETWEEN w_NOT_CONTAINING w_CONTAINING w_LIKE w_LESS_THAN_OR_EQUAL w_LESS_THAN w_NOT_LIKE : Addr) (h0 : Heap) (n0 : Nat) (PN : own_Pins Z h0 w_EQUAL w_IS_TRUE w_IS_FALSE w_GREATER_THAN_OR_EQUAL w_IS_NULL w_IS_NOT_NULL w_STARTING_WITH w_NOT_BETWEEN w_GREATER_THAN w_IN w_NOT_EQUAL w_NOT_IN w_ENDING_WITH w_BETWEEN w_NOT_CONTAINING w_CONTAINING w_LIKE w_LESS_THAN_OR_EQUAL w_LESS_THAN w_NOT_LIKE) :
    MetFree l (⟨"com/example/rootward/rootward/jdbc/OperatorTestsTruthPinLaw", "pick", "(I)Lcom/example/rootward/rootward/jdbc/Condition$Operator;"⟩ : MethodName) (head1 (Jvm.Cond.code (⟨"com/example/rootward/rootward/jdbc/OperatorTestsTruthPinLaw", "pick", "(I)Lcom/example/rootward/rootward/jdbc/Condition$Operator;"⟩ : MethodName) method_2_code 1 (some (.object "com/example/rootward/rootward/jdbc/Condition$Operator")) :: ws) ({ frames := 0, cells := 0, slots := 0, locals := 0 } : Room)) (fun a U => a = #[(.int (4 : Int32))] ∧ Z.Warmed39 U.vm ∧ U.heap = h0) (fun _ _ _ _ _ => True) (fun _ U o U' => ∃ v L, o = .returned v ∧ own_Q h0 n0 (some (.ref w_LESS_THAN)) v U'.heap L ∧ FrameEnd U o U' L ({ frames := 0, cells := 0, slots := 0, locals := 0 } : Room).cells ({ frames := 0, cells := 0, slots := 0, locals := 0 } : Room).slots) := by
  have S_LESS_THAN : Sta Z h0 "com/example/rootward/rootward/jdbc/Condition$Operator" "LESS_THAN" "Lcom/example/rootward/rootward/jdbc/Condition$Operator;" (.ref w_LESS_THAN) := PN.2.2.2.2.2.2.2.2.2.2.2.2.2.2.2.2.2.2.2.2.2.2.2.2.2.2.2.2.2.2.2.2.2.2.2.2.1
  refine MetFree.of_bodySF (plainFor_of_name pn_com_example_rootward_rootward_jdbc_OperatorTestsTruthPinLaw) hisR ?_
  intro p e s m args below meth c s₁ Bd hml0 hP hK
  obtain ⟨rfl, hZ, hh⟩ := hP
  have hx := Bd.exec
  have hby := Bd.bytes
  have hml : c.maxLocals = 1 := hml0
  have hown : s.vm.findClass "com/example/rootward/rootward/jdbc/OperatorTestsTruthPinLaw" = some m.cls := findClass_of_methodNamed Bd.named
  have X0 : Stand p l e ({ frames := 0, cells := 0, slots := 0, locals := 0 } : Room) s m #[(.int (4 : Int32))] below meth c s₁ [] 0 0 := Stand.of_body Bd
  have e0 : s₁.heap = h0 := by rw [← hh, Bd.state]; rfl
  have N0 := Fr.nil n0
  refine (?_ : own_Fin p e below _ _)
  refine own_st (fun t k => castTop (ef_1_I m (4 : Int32)) k) ?_
  show own_Fin p e below _ (s₁.setTop (mkF m 0 #[.val (.int (4 : Int32))] []))
  refine own_st (fun t k => XS.iloadN X0.here hx rfl (hb hby d1_0) rfl k) ?_
  show own_Fin p e below _ (s₁.setTop (mkF m 1 #[.val (.int (4 : Int32))] [(.int (4 : Int32))]))
  refine own_st (fun t k => XS.tswIn X0.here hx rfl (pc0 := 1) (pc' := 108) rfl (hb hby d1_1) rfl (by decide) (o := 107) (by decide) (by decide) (by decide) k) ?_
  show own_Fin p e below _ (s₁.setTop (mkF m 108 #[.val (.int (4 : Int32))] []))
  obtain ⟨T1, X1, e1, st1⟩ := getS2 X0 hx hZ hown (host := "") (Or.inl (hw _ (List.mem_of_getElem? (i := 68) rfl))) Via.refl e0 S_LESS_THAN (g := (mkF m 108 #[.val (.int (4 : Int32))] [])) rfl (hb hby d1_108)
  refine own_st st1 ?_
  show own_Fin p e below _ (T1.setTop (mkF m 111 #[.val (.int (4 : Int32))] [(.ref w_LESS_THAN)]))
  obtain ⟨fs, hr, hrun, hended, hW, hsame⟩ := X1.leave (v := some (.ref w_LESS_THAN)) (fun h => by rw [Bd.returns] at h; cases h)
  exact ⟨_, _, retOut X1 hx (t := (.object "com/example/rootward/rootward/jdbc/Condition$Operator")) Bd.returns rfl (Or.inr (Or.inr (Or.inr (Or.inr ⟨rfl, rfl, rfl⟩)))) (hb hby d1_111) hr, hrun, hended, _, _, rfl, ⟨rfl, N0, e1⟩, ⟨_, rfl⟩, hW, hsame.mono (by decide) (by decide)⟩
set_option maxRecDepth 65536 in
set_option maxHeartbeats 40000000 in
theorem rm2_w_LESS_THAN (l : Launch) (Z : State) (a0 : Array Value) (hw : ∀ d ∈ tables_1, d.before a0 Z = true) (ws : List Jvm.Cond) (w_EQUAL w_IS_TRUE w_IS_FALSE w_GREATER_THAN_OR_EQUAL w_IS_NULL w_IS_NOT_NULL w_STARTING_WITH w_NOT_BETWEEN w_GREATER_THAN w_IN w_NOT_EQUAL w_NOT_IN w_ENDING_WITH w_BETWEEN w_NOT_CONTAINING w_CONTAINING w_LIKE w_LESS_THAN_OR_EQUAL w_LESS_THAN w_NOT_LIKE : Addr) (h0 : Heap) (n0 : Nat) (PN : own_Pins Z h0 w_EQUAL w_IS_TRUE w_IS_FALSE w_GREATER_THAN_OR_EQUAL w_IS_NULL w_IS_NOT_NULL w_STARTING_WITH w_NOT_BETWEEN w_GREATER_THAN w_IN w_NOT_EQUAL w_NOT_IN w_ENDING_WITH w_BETWEEN w_NOT_CONTAINING w_CONTAINING w_LIKE w_LESS_THAN_OR_EQUAL w_LESS_THAN w_NOT_LIKE) :
    MetFree l (⟨"com/example/rootward/rootward/jdbc/Condition$Operator", "testsTruth", "()Z"⟩ : MethodName) (head1 (Jvm.Cond.code (⟨"com/example/rootward/rootward/jdbc/Condition$Operator", "testsTruth", "()Z"⟩ : MethodName) prog_32_method_8_code 1 (some .boolean) :: ws) ({ frames := 0, cells := 0, slots := 0, locals := 0 } : Room)) (fun a U => a = #[(.ref w_LESS_THAN)] ∧ Z.Warmed39 U.vm ∧ U.heap = h0) (fun _ _ _ _ _ => True) (fun _ U o U' => ∃ v L, o = .returned v ∧ own_Q h0 n0 (some (.int (0 : Int32))) v U'.heap L ∧ FrameEnd U o U' L ({ frames := 0, cells := 0, slots := 0, locals := 0 } : Room).cells ({ frames := 0, cells := 0, slots := 0, locals := 0 } : Room).slots) := by
  have S_IS_TRUE : Sta Z h0 "com/example/rootward/rootward/jdbc/Condition$Operator" "IS_TRUE" "Lcom/example/rootward/rootward/jdbc/Condition$Operator;" (.ref w_IS_TRUE) := PN.2.2.1
  have S_IS_FALSE : Sta Z h0 "com/example/rootward/rootward/jdbc/Condition$Operator" "IS_FALSE" "Lcom/example/rootward/rootward/jdbc/Condition$Operator;" (.ref w_IS_FALSE) := PN.2.2.2.2.1
  have F_IS_TRUE_ordinal : Fld Z h0 w_IS_TRUE "java/lang/Enum" "ordinal" "I" (.int 18) := PN.2.2.2.2.2.2.2.2.2.2.2.2.2.2.2.2.2.2.2.2.2.2.2.2.2.2.2.2.2.2.2.2.2.2.2.2.2.2.2.2.2.1
  have F_IS_FALSE_ordinal : Fld Z h0 w_IS_FALSE "java/lang/Enum" "ordinal" "I" (.int 19) := PN.2.2.2.2.2.2.2.2.2.2.2.2.2.2.2.2.2.2.2.2.2.2.2.2.2.2.2.2.2.2.2.2.2.2.2.2.2.2.2.2.2.2.1
  have F_LESS_THAN_ordinal : Fld Z h0 w_LESS_THAN "java/lang/Enum" "ordinal" "I" (.int 4) := PN.2.2.2.2.2.2.2.2.2.2.2.2.2.2.2.2.2.2.2.2.2.2.2.2.2.2.2.2.2.2.2.2.2.2.2.2.2.2.2.2.2.2.2.2.2.2.2.2.2.2.2.2.2.2.2.2.2.2.2.2.1
  refine MetFree.of_bodySF (plainFor_of_name pn_com_example_rootward_rootward_jdbc_Condition_Operator) hisR ?_
  intro p e s m args below meth c s₁ Bd hml0 hP hK
  obtain ⟨rfl, hZ, hh⟩ := hP
  have hx := Bd.exec
  have hby := Bd.bytes
  have hml : c.maxLocals = 1 := hml0
  have hown : s.vm.findClass "com/example/rootward/rootward/jdbc/Condition$Operator" = some m.cls := findClass_of_methodNamed Bd.named
  have X0 : Stand p l e ({ frames := 0, cells := 0, slots := 0, locals := 0 } : Room) s m #[(.ref w_LESS_THAN)] below meth c s₁ [] 0 0 := Stand.of_body Bd
  have e0 : s₁.heap = h0 := by rw [← hh, Bd.state]; rfl
  have N0 := Fr.nil n0
  refine (?_ : own_Fin p e below _ _)
  refine own_st (fun t k => castTop (ef_2_R m w_LESS_THAN) k) ?_
  show own_Fin p e below _ (s₁.setTop (mkF m 0 #[.val (.ref w_LESS_THAN)] []))
  refine own_st (fun t k => XS.aloadN X0.here hx rfl (hb hby d2_0) rfl rfl k) ?_
  show own_Fin p e below _ (s₁.setTop (mkF m 1 #[.val (.ref w_LESS_THAN)] [(.ref w_LESS_THAN)]))
  obtain ⟨T1, X1, e1, st1⟩ := getS2 X0 hx hZ hown (host := "") (Or.inl (hw _ (List.mem_of_getElem? (i := 13) rfl))) Via.refl e0 S_IS_TRUE (g := (mkF m 1 #[.val (.ref w_LESS_THAN)] [(.ref w_LESS_THAN)])) rfl (hb hby d2_1)
  refine own_st st1 ?_
  show own_Fin p e below _ (T1.setTop (mkF m 4 #[.val (.ref w_LESS_THAN)] [(.ref w_IS_TRUE), (.ref w_LESS_THAN)]))
  refine own_st (fun t k => Jvm.RoadKit.acmp (g := (mkF m 4 #[.val (.ref w_LESS_THAN)] [(.ref w_IS_TRUE), (.ref w_LESS_THAN)])) X1 hx rfl rfl rfl (pc0 := 4) (pc' := 7) (same := false) rfl (hb hby d2_4) rfl (decide_eq_false fun q => (Fld.ne F_LESS_THAN_ordinal F_IS_TRUE_ordinal (by simp)) (Value.ref.inj q)) (by decide) (by decide) k) ?_
  show own_Fin p e below _ (T1.setTop (mkF m 7 #[.val (.ref w_LESS_THAN)] []))
  refine own_st (fun t k => XS.aloadN X1.here hx rfl (hb hby d2_7) rfl rfl k) ?_
  show own_Fin p e below _ (T1.setTop (mkF m 8 #[.val (.ref w_LESS_THAN)] [(.ref w_LESS_THAN)]))
  obtain ⟨T2, X2, e2, st2⟩ := getS2 X1 hx hZ hown (host := "") (Or.inl (hw _ (List.mem_of_getElem? (i := 15) rfl))) Via.refl e1 S_IS_FALSE (g := (mkF m 8 #[.val (.ref w_LESS_THAN)] [(.ref w_LESS_THAN)])) rfl (hb hby d2_8)
  refine own_st st2 ?_
  show own_Fin p e below _ (T2.setTop (mkF m 11 #[.val (.ref w_LESS_THAN)] [(.ref w_IS_FALSE), (.ref w_LESS_THAN)]))
  refine own_st (fun t k => Jvm.RoadKit.acmp (g := (mkF m 11 #[.val (.ref w_LESS_THAN)] [(.ref w_IS_FALSE), (.ref w_LESS_THAN)])) X2 hx rfl rfl rfl (pc0 := 11) (pc' := 18) (same := false) rfl (hb hby d2_11) rfl (decide_eq_false fun q => (Fld.ne F_LESS_THAN_ordinal F_IS_FALSE_ordinal (by simp)) (Value.ref.inj q)) (by decide) (by decide) k) ?_
  show own_Fin p e below _ (T2.setTop (mkF m 18 #[.val (.ref w_LESS_THAN)] []))
  refine own_st (fun t k => XS.iconst X2.here hx rfl (hb hby d2_18) k) ?_
  show own_Fin p e below _ (T2.setTop (mkF m 19 #[.val (.ref w_LESS_THAN)] [(.int (0 : Int32))]))
  obtain ⟨fs, hr, hrun, hended, hW, hsame⟩ := X2.leave (v := some (.int (0 : Int32))) (fun h => by rw [Bd.returns] at h; cases h)
  exact ⟨_, _, retN X2 hx (t := .boolean) Bd.returns (by simp) (hb hby d2_19) hr, hrun, hended, _, _, rfl, ⟨rfl, N0, e2⟩, ⟨_, rfl⟩, hW, hsame.mono (by decide) (by decide)⟩
set_option maxRecDepth 65536 in
set_option maxHeartbeats 40000000 in
theorem rm0_c4 (l : Launch) (Z : State) (a0 : Array Value) (hw : ∀ d ∈ tables_1, d.before a0 Z = true) (ws : List Jvm.Cond) (w_EQUAL w_IS_TRUE w_IS_FALSE w_GREATER_THAN_OR_EQUAL w_IS_NULL w_IS_NOT_NULL w_STARTING_WITH w_NOT_BETWEEN w_GREATER_THAN w_IN w_NOT_EQUAL w_NOT_IN w_ENDING_WITH w_BETWEEN w_NOT_CONTAINING w_CONTAINING w_LIKE w_LESS_THAN_OR_EQUAL w_LESS_THAN w_NOT_LIKE : Addr) (p0 : Int32) (h0 : Heap) (n0 : Nat) (PN : own_Pins Z h0 w_EQUAL w_IS_TRUE w_IS_FALSE w_GREATER_THAN_OR_EQUAL w_IS_NULL w_IS_NOT_NULL w_STARTING_WITH w_NOT_BETWEEN w_GREATER_THAN w_IN w_NOT_EQUAL w_NOT_IN w_ENDING_WITH w_BETWEEN w_NOT_CONTAINING w_CONTAINING w_LIKE w_LESS_THAN_OR_EQUAL w_LESS_THAN w_NOT_LIKE) (q0 : ((p0 &&& (2147483647 : Int32)) % (20 : Int32)) = (4 : Int32)) :
    MetFree l x (head1 (Jvm.Cond.code x code maxLocals ret :: ws) room_1) (fun a U => a = #[(.int p0)] ∧ Z.Warmed39 U.vm ∧ U.heap = h0) (fun _ _ _ _ _ => True) (fun _ U o U' => ∃ v L, o = .returned v ∧ own_Q h0 n0 (some (.int (1 : Int32))) v U'.heap L ∧ FrameEnd U o U' L room_1.cells room_1.slots) := by
  have E_LESS_THAN : Exa Z h0 w_LESS_THAN "com/example/rootward/rootward/jdbc/Condition$Operator" := PN.2.2.2.2.2.2.2.2.2.2.2.2.2.2.2.2.2.2.2.2.2.2.2.2.2.2.2.2.2.2.2.2.2.2.2.2.2.1
  refine MetFree.of_bodySF (plainFor_of_name pn_com_example_rootward_rootward_jdbc_OperatorTestsTruthPinLaw) hisR ?_
  intro p e s m args below meth c s₁ Bd hml0 hP hK
  obtain ⟨rfl, hZ, hh⟩ := hP
  have hx := Bd.exec
  have hby := Bd.bytes
  have hml : c.maxLocals = 5 := hml0
  have hown : s.vm.findClass "com/example/rootward/rootward/jdbc/OperatorTestsTruthPinLaw" = some m.cls := findClass_of_methodNamed Bd.named
  have X0 : Stand p l e room_1 s m #[(.int p0)] below meth c s₁ [] 0 0 := Stand.of_body Bd
  have e0 : s₁.heap = h0 := by rw [← hh, Bd.state]; rfl
  have N0 := Fr.nil n0
  refine (?_ : own_Fin p e below _ _)
  refine own_st (fun t k => castTop (ef_0_I m p0) k) ?_
  show own_Fin p e below _ (s₁.setTop (mkF m 0 #[.val (.int p0), .unset, .unset, .unset, .unset] []))
  refine own_st (fun t k => XS.iloadN X0.here hx rfl (hb hby at_0) rfl k) ?_
  show own_Fin p e below _ (s₁.setTop (mkF m 1 #[.val (.int p0), .unset, .unset, .unset, .unset] [(.int p0)]))
  refine own_st (fun t k => X0.ldcI hx hown (mvT hZ (hw _ (List.mem_of_getElem? (i := 0) rfl))) rfl (hb hby at_1) k) ?_
  show own_Fin p e below _ (s₁.setTop (mkF m 3 #[.val (.int p0), .unset, .unset, .unset, .unset] [(.int (2147483647 : Int32)), (.int p0)]))
  refine own_st (fun t k => XS.iand X0.here hx rfl (hb hby at_3) rfl k) ?_
  show own_Fin p e below _ (s₁.setTop (mkF m 4 #[.val (.int p0), .unset, .unset, .unset, .unset] [(.int (p0 &&& (2147483647 : Int32)))]))
  refine own_st (fun t k => XS.bipush X0.here hx rfl (hb hby at_4) k) ?_
  show own_Fin p e below _ (s₁.setTop (mkF m 6 #[.val (.int p0), .unset, .unset, .unset, .unset] [(.int (20 : Int32)), (.int (p0 &&& (2147483647 : Int32)))]))
  refine own_st (fun t k => iremM X0 hx rfl (hb hby at_6) rfl (by decide) k) ?_
  show own_Fin p e below _ (s₁.setTop (mkF m 7 #[.val (.int p0), .unset, .unset, .unset, .unset] [(.int ((p0 &&& (2147483647 : Int32)) % (20 : Int32)))]))
  rw [q0]
  show own_Fin p e below _ (s₁.setTop (mkF m 7 #[.val (.int p0), .unset, .unset, .unset, .unset] [(.int (4 : Int32))]))
  refine own_st (fun t k => XS.istoreN X0.here hx rfl (hb hby at_7) rfl (l' := #[.val (.int p0), .val (.int (4 : Int32)), .unset, .unset, .unset]) rfl k) ?_
  show own_Fin p e below _ (s₁.setTop (mkF m 8 #[.val (.int p0), .val (.int (4 : Int32)), .unset, .unset, .unset] []))
  refine own_st (fun t k => XS.iloadN X0.here hx rfl (hb hby at_8) rfl k) ?_
  show own_Fin p e below _ (s₁.setTop (mkF m 9 #[.val (.int p0), .val (.int (4 : Int32)), .unset, .unset, .unset] [(.int (4 : Int32))]))
  obtain ⟨_, _, ⟨T1, L1, k1, n1⟩, -, X1, ⟨Lc1, hQ1, l1, y1, z1⟩, st1⟩ := Jvm.LawKit.callS X0 hx (y := (⟨"com/example/rootward/rootward/jdbc/OperatorTestsTruthPinLaw", "pick", "(I)Lcom/example/rootward/rootward/jdbc/Condition$Operator;"⟩ : MethodName)) hown (mvT hZ (hw _ (List.mem_of_getElem? (i := 1) rfl))) (mvT hZ (hw _ (List.mem_of_getElem? (i := 2) rfl))) (mvT hZ (hw _ (List.mem_of_getElem? (i := 3) rfl))) (mvT hZ (hw _ (List.mem_of_getElem? (i := 4) rfl))) (by decide) (backOf (W := 0) (rm1_4 l Z a0 hw [] w_EQUAL w_IS_TRUE w_IS_FALSE w_GREATER_THAN_OR_EQUAL w_IS_NULL w_IS_NOT_NULL w_STARTING_WITH w_NOT_BETWEEN w_GREATER_THAN w_IN w_NOT_EQUAL w_NOT_IN w_ENDING_WITH w_BETWEEN w_NOT_CONTAINING w_CONTAINING w_LIKE w_LESS_THAN_OR_EQUAL w_LESS_THAN w_NOT_LIKE h0 n0 PN) hZ (hw _ (List.mem_of_getElem? (i := 4) rfl)) (hw _ (List.mem_of_getElem? (i := 3) rfl)) (by decide) (by decide)) (g := (mkF m 9 #[.val (.int p0), .val (.int (4 : Int32)), .unset, .unset, .unset] [(.int (4 : Int32))])) rfl (by rw [hml]; rfl) (argsL := [(.int (4 : Int32))]) (rest := []) (lenOf pd__I_Lcom_example_rootward_rootward_jdbc_Condition_Operator_ rfl) rfl (by show 2 * 0 + _ ≤ _; exact Nat.le_of_eq rfl) (hb hby at_9) (fun _ _ => ⟨rfl, e0, (by decide : 0 + 0 ≤ _), (by decide : 0 + 0 ≤ _)⟩)
  dsimp only [Pt.U, Pt.locs, Pt.cells, Pt.slots] at X1 l1 y1 z1 st1 hQ1
  subst l1 y1 z1
  obtain ⟨rfl, N1q, e1⟩ := hQ1
  have N1 := Fr.app N0 N1q
  refine own_st st1 ?_
  show own_Fin p e below _ (T1.setTop (mkF m 12 #[.val (.int p0), .val (.int (4 : Int32)), .unset, .unset, .unset] [(.ref w_LESS_THAN)]))
  refine own_st (fun t k => XS.astoreN X1.here hx rfl (hb hby at_12) rfl rfl (l' := #[.val (.int p0), .val (.int (4 : Int32)), .val (.ref w_LESS_THAN), .unset, .unset]) rfl k) ?_
  show own_Fin p e below _ (T1.setTop (mkF m 13 #[.val (.int p0), .val (.int (4 : Int32)), .val (.ref w_LESS_THAN), .unset, .unset] []))
  refine own_st (fun t k => XS.iloadN X1.here hx rfl (hb hby at_13) rfl k) ?_
  show own_Fin p e below _ (T1.setTop (mkF m 14 #[.val (.int p0), .val (.int (4 : Int32)), .val (.ref w_LESS_THAN), .unset, .unset] [(.int (4 : Int32))]))
  refine own_st (fun t k => XS.bipush X1.here hx rfl (hb hby at_14) k) ?_
  show own_Fin p e below _ (T1.setTop (mkF m 16 #[.val (.int p0), .val (.int (4 : Int32)), .val (.ref w_LESS_THAN), .unset, .unset] [(.int (18 : Int32)), (.int (4 : Int32))]))
  refine own_st (fun t k => XS.icmpNo X1.here hx rfl (hb hby at_16) rfl (by decide) k) ?_
  show own_Fin p e below _ (T1.setTop (mkF m 19 #[.val (.int p0), .val (.int (4 : Int32)), .val (.ref w_LESS_THAN), .unset, .unset] []))
  refine own_st (fun t k => XS.iloadN X1.here hx rfl (hb hby at_19) rfl k) ?_
  show own_Fin p e below _ (T1.setTop (mkF m 20 #[.val (.int p0), .val (.int (4 : Int32)), .val (.ref w_LESS_THAN), .unset, .unset] [(.int (4 : Int32))]))
  refine own_st (fun t k => XS.bipush X1.here hx rfl (hb hby at_20) k) ?_
  show own_Fin p e below _ (T1.setTop (mkF m 22 #[.val (.int p0), .val (.int (4 : Int32)), .val (.ref w_LESS_THAN), .unset, .unset] [(.int (19 : Int32)), (.int (4 : Int32))]))
  refine own_st (fun t k => XS.icmpYes X1.here hx rfl (pc0 := 22) (pc' := 29) rfl (hb hby at_22) rfl (by decide) (by decide) (by decide) k) ?_
  show own_Fin p e below _ (T1.setTop (mkF m 29 #[.val (.int p0), .val (.int (4 : Int32)), .val (.ref w_LESS_THAN), .unset, .unset] []))
  refine own_st (fun t k => XS.iconst X1.here hx rfl (hb hby at_29) k) ?_
  show own_Fin p e below _ (T1.setTop (mkF m 30 #[.val (.int p0), .val (.int (4 : Int32)), .val (.ref w_LESS_THAN), .unset, .unset] [(.int (0 : Int32))]))
  refine own_st (fun t k => XS.istoreN X1.here hx rfl (hb hby at_30) rfl (l' := #[.val (.int p0), .val (.int (4 : Int32)), .val (.ref w_LESS_THAN), .val (.int (0 : Int32)), .unset]) rfl k) ?_
  show own_Fin p e below _ (T1.setTop (mkF m 31 #[.val (.int p0), .val (.int (4 : Int32)), .val (.ref w_LESS_THAN), .val (.int (0 : Int32)), .unset] []))
  refine own_st (fun t k => XS.aloadN X1.here hx rfl (hb hby at_31) rfl rfl k) ?_
  show own_Fin p e below _ (T1.setTop (mkF m 32 #[.val (.int p0), .val (.int (4 : Int32)), .val (.ref w_LESS_THAN), .val (.int (0 : Int32)), .unset] [(.ref w_LESS_THAN)]))
  obtain ⟨cq2, kq2, q2a, q2b, q2c⟩ := isOf hZ e1 E_LESS_THAN
  obtain ⟨_, _, ⟨T2, L2, k2, n2⟩, -, X2, ⟨Lc2, hQ2, l2, y2, z2⟩, st2⟩ := X1.virtualBack hx (y := (⟨"com/example/rootward/rootward/jdbc/Condition$Operator", "testsTruth", "()Z"⟩ : MethodName)) (z := (⟨"com/example/rootward/rootward/jdbc/Condition$Operator", "testsTruth", "()Z"⟩ : MethodName)) hown (mvT hZ (hw _ (List.mem_of_getElem? (i := 8) rfl))) (mvT hZ (hw _ (List.mem_of_getElem? (i := 9) rfl))) (notFace_of_selects (args := #[]) (mvT hZ (hw _ (List.mem_of_getElem? (i := 11) rfl)))) (mvT hZ (hw _ (List.mem_of_getElem? (i := 11) rfl))) (mvT hZ (hw _ (List.mem_of_getElem? (i := 10) rfl))) (by decide) (backOf (W := 0) (rm2_w_LESS_THAN l Z a0 hw [] w_EQUAL w_IS_TRUE w_IS_FALSE w_GREATER_THAN_OR_EQUAL w_IS_NULL w_IS_NOT_NULL w_STARTING_WITH w_NOT_BETWEEN w_GREATER_THAN w_IN w_NOT_EQUAL w_NOT_IN w_ENDING_WITH w_BETWEEN w_NOT_CONTAINING w_CONTAINING w_LIKE w_LESS_THAN_OR_EQUAL w_LESS_THAN w_NOT_LIKE h0 n0 PN) hZ (hw _ (List.mem_of_getElem? (i := 12) rfl)) (hw _ (List.mem_of_getElem? (i := 6) rfl)) (by decide) (by decide)) q2a q2c (g := (mkF m 32 #[.val (.int p0), .val (.int (4 : Int32)), .val (.ref w_LESS_THAN), .val (.int (0 : Int32)), .unset] [(.ref w_LESS_THAN)])) rfl (by rw [hml]; rfl) (Steps.refl _) (argsL := []) (rest := []) (lenOf pd___Z rfl) rfl (by show 2 * 0 + _ ≤ _; exact Nat.le_of_eq rfl) (hb hby at_32) (fun _ _ => ⟨rfl, e1, (by decide : 0 + 0 ≤ _), (by decide : 0 + 0 ≤ _)⟩)
  dsimp only [Pt.U, Pt.locs, Pt.cells, Pt.slots] at X2 l2 y2 z2 st2 hQ2
  subst l2 y2 z2
  obtain ⟨rfl, N2q, e2⟩ := hQ2
  have N2 := Fr.app N1 N2q
  refine own_tr st2 ?_
  show own_Fin p e below _ (T2.setTop (mkF m 35 #[.val (.int p0), .val (.int (4 : Int32)), .val (.ref w_LESS_THAN), .val (.int (0 : Int32)), .unset] [(.int (0 : Int32))]))
  refine own_st (fun t k => XS.istore X2.here hx rfl (hb hby at_35) rfl (l' := #[.val (.int p0), .val (.int (4 : Int32)), .val (.ref w_LESS_THAN), .val (.int (0 : Int32)), .val (.int (0 : Int32))]) rfl k) ?_
  show own_Fin p e below _ (T2.setTop (mkF m 37 #[.val (.int p0), .val (.int (4 : Int32)), .val (.ref w_LESS_THAN), .val (.int (0 : Int32)), .val (.int (0 : Int32))] []))
  refine own_st (fun t k => XS.iload X2.here hx rfl (hb hby at_37) rfl k) ?_
  show own_Fin p e below _ (T2.setTop (mkF m 39 #[.val (.int p0), .val (.int (4 : Int32)), .val (.ref w_LESS_THAN), .val (.int (0 : Int32)), .val (.int (0 : Int32))] [(.int (0 : Int32))]))
  refine own_st (fun t k => XS.iloadN X2.here hx rfl (hb hby at_39) rfl k) ?_
  show own_Fin p e below _ (T2.setTop (mkF m 40 #[.val (.int p0), .val (.int (4 : Int32)), .val (.ref w_LESS_THAN), .val (.int (0 : Int32)), .val (.int (0 : Int32))] [(.int (0 : Int32)), (.int (0 : Int32))]))
  refine own_st (fun t k => XS.icmpYes X2.here hx rfl (pc0 := 40) (pc' := 45) rfl (hb hby at_40) rfl (by decide) (by decide) (by decide) k) ?_
  show own_Fin p e below _ (T2.setTop (mkF m 45 #[.val (.int p0), .val (.int (4 : Int32)), .val (.ref w_LESS_THAN), .val (.int (0 : Int32)), .val (.int (0 : Int32))] []))
  refine own_st (fun t k => XS.iload X2.here hx rfl (hb hby at_45) rfl k) ?_
  show own_Fin p e below _ (T2.setTop (mkF m 47 #[.val (.int p0), .val (.int (4 : Int32)), .val (.ref w_LESS_THAN), .val (.int (0 : Int32)), .val (.int (0 : Int32))] [(.int (0 : Int32))]))
  refine own_st (fun t k => XS.ifYes X2.here hx rfl (pc0 := 47) (pc' := 73) rfl (hb hby at_47) rfl (by decide) (by decide) (by decide) k) ?_
  show own_Fin p e below _ (T2.setTop (mkF m 73 #[.val (.int p0), .val (.int (4 : Int32)), .val (.ref w_LESS_THAN), .val (.int (0 : Int32)), .val (.int (0 : Int32))] []))
  refine own_st (fun t k => XS.iconst X2.here hx rfl (hb hby at_73) k) ?_
  show own_Fin p e below _ (T2.setTop (mkF m 74 #[.val (.int p0), .val (.int (4 : Int32)), .val (.ref w_LESS_THAN), .val (.int (0 : Int32)), .val (.int (0 : Int32))] [(.int (1 : Int32))]))
  obtain ⟨fs, hr, hrun, hended, hW, hsame⟩ := X2.leave (v := some (.int (1 : Int32))) (fun h => by rw [Bd.returns] at h; cases h)
  exact ⟨_, _, retN X2 hx (t := .boolean) Bd.returns (by simp) (hb hby at_74) hr, hrun, hended, _, _, rfl, ⟨rfl, N2, e2⟩, ⟨_, rfl⟩, hW, hsame.mono (by decide) (by decide)⟩
theorem d1_112 : decode method_2_code 112 = .ok (.getstatic 25, 3) := by decide +kernel
theorem d1_115 : decode method_2_code 115 = .ok (.areturn, 1) := by decide +kernel
set_option maxRecDepth 65536 in
set_option maxHeartbeats 40000000 in
theorem rm1_5 (l : Launch) (Z : State) (a0 : Array Value) (hw : ∀ d ∈ tables_1, d.before a0 Z = true) (ws : List Jvm.Cond) (w_EQUAL w_IS_TRUE w_IS_FALSE w_GREATER_THAN_OR_EQUAL w_IS_NULL w_IS_NOT_NULL w_STARTING_WITH w_NOT_BETWEEN w_GREATER_THAN w_IN w_NOT_EQUAL w_NOT_IN w_ENDING_WITH w_BETWEEN w_NOT_CONTAINING w_CONTAINING w_LIKE w_LESS_THAN_OR_EQUAL w_LESS_THAN w_NOT_LIKE : Addr) (h0 : Heap) (n0 : Nat) (PN : own_Pins Z h0 w_EQUAL w_IS_TRUE w_IS_FALSE w_GREATER_THAN_OR_EQUAL w_IS_NULL w_IS_NOT_NULL w_STARTING_WITH w_NOT_BETWEEN w_GREATER_THAN w_IN w_NOT_EQUAL w_NOT_IN w_ENDING_WITH w_BETWEEN w_NOT_CONTAINING w_CONTAINING w_LIKE w_LESS_THAN_OR_EQUAL w_LESS_THAN w_NOT_LIKE) :
    MetFree l (⟨"com/example/rootward/rootward/jdbc/OperatorTestsTruthPinLaw", "pick", "(I)Lcom/example/rootward/rootward/jdbc/Condition$Operator;"⟩ : MethodName) (head1 (Jvm.Cond.code (⟨"com/example/rootward/rootward/jdbc/OperatorTestsTruthPinLaw", "pick", "(I)Lcom/example/rootward/rootward/jdbc/Condition$Operator;"⟩ : MethodName) method_2_code 1 (some (.object "com/example/rootward/rootward/jdbc/Condition$Operator")) :: ws) ({ frames := 0, cells := 0, slots := 0, locals := 0 } : Room)) (fun a U => a = #[(.int (5 : Int32))] ∧ Z.Warmed39 U.vm ∧ U.heap = h0) (fun _ _ _ _ _ => True) (fun _ U o U' => ∃ v L, o = .returned v ∧ own_Q h0 n0 (some (.ref w_LESS_THAN_OR_EQUAL)) v U'.heap L ∧ FrameEnd U o U' L ({ frames := 0, cells := 0, slots := 0, locals := 0 } : Room).cells ({ frames := 0, cells := 0, slots := 0, locals := 0 } : Room).slots) := by
  have S_LESS_THAN_OR_EQUAL : Sta Z h0 "com/example/rootward/rootward/jdbc/Condition$Operator" "LESS_THAN_OR_EQUAL" "Lcom/example/rootward/rootward/jdbc/Condition$Operator;" (.ref w_LESS_THAN_OR_EQUAL) := PN.2.2.2.2.2.2.2.2.2.2.2.2.2.2.2.2.2.2.2.2.2.2.2.2.2.2.2.2.2.2.2.2.2.2.1
  refine MetFree.of_bodySF (plainFor_of_name pn_com_example_rootward_rootward_jdbc_OperatorTestsTruthPinLaw) hisR ?_
  intro p e s m args below meth c s₁ Bd hml0 hP hK
  obtain ⟨rfl, hZ, hh⟩ := hP
  have hx := Bd.exec
  have hby := Bd.bytes
  have hml : c.maxLocals = 1 := hml0
  have hown : s.vm.findClass "com/example/rootward/rootward/jdbc/OperatorTestsTruthPinLaw" = some m.cls := findClass_of_methodNamed Bd.named
  have X0 : Stand p l e ({ frames := 0, cells := 0, slots := 0, locals := 0 } : Room) s m #[(.int (5 : Int32))] below meth c s₁ [] 0 0 := Stand.of_body Bd
  have e0 : s₁.heap = h0 := by rw [← hh, Bd.state]; rfl
  have N0 := Fr.nil n0
  refine (?_ : own_Fin p e below _ _)
  refine own_st (fun t k => castTop (ef_1_I m (5 : Int32)) k) ?_
  show own_Fin p e below _ (s₁.setTop (mkF m 0 #[.val (.int (5 : Int32))] []))
  refine own_st (fun t k => XS.iloadN X0.here hx rfl (hb hby d1_0) rfl k) ?_
  show own_Fin p e below _ (s₁.setTop (mkF m 1 #[.val (.int (5 : Int32))] [(.int (5 : Int32))]))
  refine own_st (fun t k => XS.tswIn X0.here hx rfl (pc0 := 1) (pc' := 112) rfl (hb hby d1_1) rfl (by decide) (o := 111) (by decide) (by decide) (by decide) k) ?_
  show own_Fin p e below _ (s₁.setTop (mkF m 112 #[.val (.int (5 : Int32))] []))
  obtain ⟨T1, X1, e1, st1⟩ := getS2 X0 hx hZ hown (host := "") (Or.inl (hw _ (List.mem_of_getElem? (i := 66) rfl))) Via.refl e0 S_LESS_THAN_OR_EQUAL (g := (mkF m 112 #[.val (.int (5 : Int32))] [])) rfl (hb hby d1_112)
  refine own_st st1 ?_
  show own_Fin p e below _ (T1.setTop (mkF m 115 #[.val (.int (5 : Int32))] [(.ref w_LESS_THAN_OR_EQUAL)]))
  obtain ⟨fs, hr, hrun, hended, hW, hsame⟩ := X1.leave (v := some (.ref w_LESS_THAN_OR_EQUAL)) (fun h => by rw [Bd.returns] at h; cases h)
  exact ⟨_, _, retOut X1 hx (t := (.object "com/example/rootward/rootward/jdbc/Condition$Operator")) Bd.returns rfl (Or.inr (Or.inr (Or.inr (Or.inr ⟨rfl, rfl, rfl⟩)))) (hb hby d1_115) hr, hrun, hended, _, _, rfl, ⟨rfl, N0, e1⟩, ⟨_, rfl⟩, hW, hsame.mono (by decide) (by decide)⟩
set_option maxRecDepth 65536 in
set_option maxHeartbeats 40000000 in
theorem rm2_w_LESS_THAN_OR_EQUAL (l : Launch) (Z : State) (a0 : Array Value) (hw : ∀ d ∈ tables_1, d.before a0 Z = true) (ws : List Jvm.Cond) (w_EQUAL w_IS_TRUE w_IS_FALSE w_GREATER_THAN_OR_EQUAL w_IS_NULL w_IS_NOT_NULL w_STARTING_WITH w_NOT_BETWEEN w_GREATER_THAN w_IN w_NOT_EQUAL w_NOT_IN w_ENDING_WITH w_BETWEEN w_NOT_CONTAINING w_CONTAINING w_LIKE w_LESS_THAN_OR_EQUAL w_LESS_THAN w_NOT_LIKE : Addr) (h0 : Heap) (n0 : Nat) (PN : own_Pins Z h0 w_EQUAL w_IS_TRUE w_IS_FALSE w_GREATER_THAN_OR_EQUAL w_IS_NULL w_IS_NOT_NULL w_STARTING_WITH w_NOT_BETWEEN w_GREATER_THAN w_IN w_NOT_EQUAL w_NOT_IN w_ENDING_WITH w_BETWEEN w_NOT_CONTAINING w_CONTAINING w_LIKE w_LESS_THAN_OR_EQUAL w_LESS_THAN w_NOT_LIKE) :
    MetFree l (⟨"com/example/rootward/rootward/jdbc/Condition$Operator", "testsTruth", "()Z"⟩ : MethodName) (head1 (Jvm.Cond.code (⟨"com/example/rootward/rootward/jdbc/Condition$Operator", "testsTruth", "()Z"⟩ : MethodName) prog_32_method_8_code 1 (some .boolean) :: ws) ({ frames := 0, cells := 0, slots := 0, locals := 0 } : Room)) (fun a U => a = #[(.ref w_LESS_THAN_OR_EQUAL)] ∧ Z.Warmed39 U.vm ∧ U.heap = h0) (fun _ _ _ _ _ => True) (fun _ U o U' => ∃ v L, o = .returned v ∧ own_Q h0 n0 (some (.int (0 : Int32))) v U'.heap L ∧ FrameEnd U o U' L ({ frames := 0, cells := 0, slots := 0, locals := 0 } : Room).cells ({ frames := 0, cells := 0, slots := 0, locals := 0 } : Room).slots) := by
  have S_IS_TRUE : Sta Z h0 "com/example/rootward/rootward/jdbc/Condition$Operator" "IS_TRUE" "Lcom/example/rootward/rootward/jdbc/Condition$Operator;" (.ref w_IS_TRUE) := PN.2.2.1
  have S_IS_FALSE : Sta Z h0 "com/example/rootward/rootward/jdbc/Condition$Operator" "IS_FALSE" "Lcom/example/rootward/rootward/jdbc/Condition$Operator;" (.ref w_IS_FALSE) := PN.2.2.2.2.1
  have F_IS_TRUE_ordinal : Fld Z h0 w_IS_TRUE "java/lang/Enum" "ordinal" "I" (.int 18) := PN.2.2.2.2.2.2.2.2.2.2.2.2.2.2.2.2.2.2.2.2.2.2.2.2.2.2.2.2.2.2.2.2.2.2.2.2.2.2.2.2.2.1
  have F_IS_FALSE_ordinal : Fld Z h0 w_IS_FALSE "java/lang/Enum" "ordinal" "I" (.int 19) := PN.2.2.2.2.2.2.2.2.2.2.2.2.2.2.2.2.2.2.2.2.2.2.2.2.2.2.2.2.2.2.2.2.2.2.2.2.2.2.2.2.2.2.1
  have F_LESS_THAN_OR_EQUAL_ordinal : Fld Z h0 w_LESS_THAN_OR_EQUAL "java/lang/Enum" "ordinal" "I" (.int 5) := PN.2.2.2.2.2.2.2.2.2.2.2.2.2.2.2.2.2.2.2.2.2.2.2.2.2.2.2.2.2.2.2.2.2.2.2.2.2.2.2.2.2.2.2.2.2.2.2.2.2.2.2.2.2.2.2.2.2.2.2.1
  refine MetFree.of_bodySF (plainFor_of_name pn_com_example_rootward_rootward_jdbc_Condition_Operator) hisR ?_
  intro p e s m args below meth c s₁ Bd hml0 hP hK
  obtain ⟨rfl, hZ, hh⟩ := hP
  have hx := Bd.exec
  have hby := Bd.bytes
  have hml : c.maxLocals = 1 := hml0
  have hown : s.vm.findClass "com/example/rootward/rootward/jdbc/Condition$Operator" = some m.cls := findClass_of_methodNamed Bd.named
  have X0 : Stand p l e ({ frames := 0, cells := 0, slots := 0, locals := 0 } : Room) s m #[(.ref w_LESS_THAN_OR_EQUAL)] below meth c s₁ [] 0 0 := Stand.of_body Bd
  have e0 : s₁.heap = h0 := by rw [← hh, Bd.state]; rfl
  have N0 := Fr.nil n0
  refine (?_ : own_Fin p e below _ _)
  refine own_st (fun t k => castTop (ef_2_R m w_LESS_THAN_OR_EQUAL) k) ?_
  show own_Fin p e below _ (s₁.setTop (mkF m 0 #[.val (.ref w_LESS_THAN_OR_EQUAL)] []))
  refine own_st (fun t k => XS.aloadN X0.here hx rfl (hb hby d2_0) rfl rfl k) ?_
  show own_Fin p e below _ (s₁.setTop (mkF m 1 #[.val (.ref w_LESS_THAN_OR_EQUAL)] [(.ref w_LESS_THAN_OR_EQUAL)]))
  obtain ⟨T1, X1, e1, st1⟩ := getS2 X0 hx hZ hown (host := "") (Or.inl (hw _ (List.mem_of_getElem? (i := 13) rfl))) Via.refl e0 S_IS_TRUE (g := (mkF m 1 #[.val (.ref w_LESS_THAN_OR_EQUAL)] [(.ref w_LESS_THAN_OR_EQUAL)])) rfl (hb hby d2_1)
  refine own_st st1 ?_
  show own_Fin p e below _ (T1.setTop (mkF m 4 #[.val (.ref w_LESS_THAN_OR_EQUAL)] [(.ref w_IS_TRUE), (.ref w_LESS_THAN_OR_EQUAL)]))
  refine own_st (fun t k => Jvm.RoadKit.acmp (g := (mkF m 4 #[.val (.ref w_LESS_THAN_OR_EQUAL)] [(.ref w_IS_TRUE), (.ref w_LESS_THAN_OR_EQUAL)])) X1 hx rfl rfl rfl (pc0 := 4) (pc' := 7) (same := false) rfl (hb hby d2_4) rfl (decide_eq_false fun q => (Fld.ne F_LESS_THAN_OR_EQUAL_ordinal F_IS_TRUE_ordinal (by simp)) (Value.ref.inj q)) (by decide) (by decide) k) ?_
  show own_Fin p e below _ (T1.setTop (mkF m 7 #[.val (.ref w_LESS_THAN_OR_EQUAL)] []))
  refine own_st (fun t k => XS.aloadN X1.here hx rfl (hb hby d2_7) rfl rfl k) ?_
  show own_Fin p e below _ (T1.setTop (mkF m 8 #[.val (.ref w_LESS_THAN_OR_EQUAL)] [(.ref w_LESS_THAN_OR_EQUAL)]))
  obtain ⟨T2, X2, e2, st2⟩ := getS2 X1 hx hZ hown (host := "") (Or.inl (hw _ (List.mem_of_getElem? (i := 15) rfl))) Via.refl e1 S_IS_FALSE (g := (mkF m 8 #[.val (.ref w_LESS_THAN_OR_EQUAL)] [(.ref w_LESS_THAN_OR_EQUAL)])) rfl (hb hby d2_8)
  refine own_st st2 ?_
  show own_Fin p e below _ (T2.setTop (mkF m 11 #[.val (.ref w_LESS_THAN_OR_EQUAL)] [(.ref w_IS_FALSE), (.ref w_LESS_THAN_OR_EQUAL)]))
  refine own_st (fun t k => Jvm.RoadKit.acmp (g := (mkF m 11 #[.val (.ref w_LESS_THAN_OR_EQUAL)] [(.ref w_IS_FALSE), (.ref w_LESS_THAN_OR_EQUAL)])) X2 hx rfl rfl rfl (pc0 := 11) (pc' := 18) (same := false) rfl (hb hby d2_11) rfl (decide_eq_false fun q => (Fld.ne F_LESS_THAN_OR_EQUAL_ordinal F_IS_FALSE_ordinal (by simp)) (Value.ref.inj q)) (by decide) (by decide) k) ?_
  show own_Fin p e below _ (T2.setTop (mkF m 18 #[.val (.ref w_LESS_THAN_OR_EQUAL)] []))
  refine own_st (fun t k => XS.iconst X2.here hx rfl (hb hby d2_18) k) ?_
  show own_Fin p e below _ (T2.setTop (mkF m 19 #[.val (.ref w_LESS_THAN_OR_EQUAL)] [(.int (0 : Int32))]))
  obtain ⟨fs, hr, hrun, hended, hW, hsame⟩ := X2.leave (v := some (.int (0 : Int32))) (fun h => by rw [Bd.returns] at h; cases h)
  exact ⟨_, _, retN X2 hx (t := .boolean) Bd.returns (by simp) (hb hby d2_19) hr, hrun, hended, _, _, rfl, ⟨rfl, N0, e2⟩, ⟨_, rfl⟩, hW, hsame.mono (by decide) (by decide)⟩
set_option maxRecDepth 65536 in
set_option maxHeartbeats 40000000 in
theorem rm0_c5 (l : Launch) (Z : State) (a0 : Array Value) (hw : ∀ d ∈ tables_1, d.before a0 Z = true) (ws : List Jvm.Cond) (w_EQUAL w_IS_TRUE w_IS_FALSE w_GREATER_THAN_OR_EQUAL w_IS_NULL w_IS_NOT_NULL w_STARTING_WITH w_NOT_BETWEEN w_GREATER_THAN w_IN w_NOT_EQUAL w_NOT_IN w_ENDING_WITH w_BETWEEN w_NOT_CONTAINING w_CONTAINING w_LIKE w_LESS_THAN_OR_EQUAL w_LESS_THAN w_NOT_LIKE : Addr) (p0 : Int32) (h0 : Heap) (n0 : Nat) (PN : own_Pins Z h0 w_EQUAL w_IS_TRUE w_IS_FALSE w_GREATER_THAN_OR_EQUAL w_IS_NULL w_IS_NOT_NULL w_STARTING_WITH w_NOT_BETWEEN w_GREATER_THAN w_IN w_NOT_EQUAL w_NOT_IN w_ENDING_WITH w_BETWEEN w_NOT_CONTAINING w_CONTAINING w_LIKE w_LESS_THAN_OR_EQUAL w_LESS_THAN w_NOT_LIKE) (q0 : ((p0 &&& (2147483647 : Int32)) % (20 : Int32)) = (5 : Int32)) :
    MetFree l x (head1 (Jvm.Cond.code x code maxLocals ret :: ws) room_1) (fun a U => a = #[(.int p0)] ∧ Z.Warmed39 U.vm ∧ U.heap = h0) (fun _ _ _ _ _ => True) (fun _ U o U' => ∃ v L, o = .returned v ∧ own_Q h0 n0 (some (.int (1 : Int32))) v U'.heap L ∧ FrameEnd U o U' L room_1.cells room_1.slots) := by
  have E_LESS_THAN_OR_EQUAL : Exa Z h0 w_LESS_THAN_OR_EQUAL "com/example/rootward/rootward/jdbc/Condition$Operator" := PN.2.2.2.2.2.2.2.2.2.2.2.2.2.2.2.2.2.2.2.2.2.2.2.2.2.2.2.2.2.2.2.2.2.2.2.1
  refine MetFree.of_bodySF (plainFor_of_name pn_com_example_rootward_rootward_jdbc_OperatorTestsTruthPinLaw) hisR ?_
  intro p e s m args below meth c s₁ Bd hml0 hP hK
  obtain ⟨rfl, hZ, hh⟩ := hP
  have hx := Bd.exec
  have hby := Bd.bytes
  have hml : c.maxLocals = 5 := hml0
  have hown : s.vm.findClass "com/example/rootward/rootward/jdbc/OperatorTestsTruthPinLaw" = some m.cls := findClass_of_methodNamed Bd.named
  have X0 : Stand p l e room_1 s m #[(.int p0)] below meth c s₁ [] 0 0 := Stand.of_body Bd
  have e0 : s₁.heap = h0 := by rw [← hh, Bd.state]; rfl
  have N0 := Fr.nil n0
  refine (?_ : own_Fin p e below _ _)
  refine own_st (fun t k => castTop (ef_0_I m p0) k) ?_
  show own_Fin p e below _ (s₁.setTop (mkF m 0 #[.val (.int p0), .unset, .unset, .unset, .unset] []))
  refine own_st (fun t k => XS.iloadN X0.here hx rfl (hb hby at_0) rfl k) ?_
  show own_Fin p e below _ (s₁.setTop (mkF m 1 #[.val (.int p0), .unset, .unset, .unset, .unset] [(.int p0)]))
  refine own_st (fun t k => X0.ldcI hx hown (mvT hZ (hw _ (List.mem_of_getElem? (i := 0) rfl))) rfl (hb hby at_1) k) ?_
  show own_Fin p e below _ (s₁.setTop (mkF m 3 #[.val (.int p0), .unset, .unset, .unset, .unset] [(.int (2147483647 : Int32)), (.int p0)]))
  refine own_st (fun t k => XS.iand X0.here hx rfl (hb hby at_3) rfl k) ?_
  show own_Fin p e below _ (s₁.setTop (mkF m 4 #[.val (.int p0), .unset, .unset, .unset, .unset] [(.int (p0 &&& (2147483647 : Int32)))]))
  refine own_st (fun t k => XS.bipush X0.here hx rfl (hb hby at_4) k) ?_
  show own_Fin p e below _ (s₁.setTop (mkF m 6 #[.val (.int p0), .unset, .unset, .unset, .unset] [(.int (20 : Int32)), (.int (p0 &&& (2147483647 : Int32)))]))
  refine own_st (fun t k => iremM X0 hx rfl (hb hby at_6) rfl (by decide) k) ?_
  show own_Fin p e below _ (s₁.setTop (mkF m 7 #[.val (.int p0), .unset, .unset, .unset, .unset] [(.int ((p0 &&& (2147483647 : Int32)) % (20 : Int32)))]))
  rw [q0]
  show own_Fin p e below _ (s₁.setTop (mkF m 7 #[.val (.int p0), .unset, .unset, .unset, .unset] [(.int (5 : Int32))]))
  refine own_st (fun t k => XS.istoreN X0.here hx rfl (hb hby at_7) rfl (l' := #[.val (.int p0), .val (.int (5 : Int32)), .unset, .unset, .unset]) rfl k) ?_
  show own_Fin p e below _ (s₁.setTop (mkF m 8 #[.val (.int p0), .val (.int (5 : Int32)), .unset, .unset, .unset] []))
  refine own_st (fun t k => XS.iloadN X0.here hx rfl (hb hby at_8) rfl k) ?_
  show own_Fin p e below _ (s₁.setTop (mkF m 9 #[.val (.int p0), .val (.int (5 : Int32)), .unset, .unset, .unset] [(.int (5 : Int32))]))
  obtain ⟨_, _, ⟨T1, L1, k1, n1⟩, -, X1, ⟨Lc1, hQ1, l1, y1, z1⟩, st1⟩ := Jvm.LawKit.callS X0 hx (y := (⟨"com/example/rootward/rootward/jdbc/OperatorTestsTruthPinLaw", "pick", "(I)Lcom/example/rootward/rootward/jdbc/Condition$Operator;"⟩ : MethodName)) hown (mvT hZ (hw _ (List.mem_of_getElem? (i := 1) rfl))) (mvT hZ (hw _ (List.mem_of_getElem? (i := 2) rfl))) (mvT hZ (hw _ (List.mem_of_getElem? (i := 3) rfl))) (mvT hZ (hw _ (List.mem_of_getElem? (i := 4) rfl))) (by decide) (backOf (W := 0) (rm1_5 l Z a0 hw [] w_EQUAL w_IS_TRUE w_IS_FALSE w_GREATER_THAN_OR_EQUAL w_IS_NULL w_IS_NOT_NULL w_STARTING_WITH w_NOT_BETWEEN w_GREATER_THAN w_IN w_NOT_EQUAL w_NOT_IN w_ENDING_WITH w_BETWEEN w_NOT_CONTAINING w_CONTAINING w_LIKE w_LESS_THAN_OR_EQUAL w_LESS_THAN w_NOT_LIKE h0 n0 PN) hZ (hw _ (List.mem_of_getElem? (i := 4) rfl)) (hw _ (List.mem_of_getElem? (i := 3) rfl)) (by decide) (by decide)) (g := (mkF m 9 #[.val (.int p0), .val (.int (5 : Int32)), .unset, .unset, .unset] [(.int (5 : Int32))])) rfl (by rw [hml]; rfl) (argsL := [(.int (5 : Int32))]) (rest := []) (lenOf pd__I_Lcom_example_rootward_rootward_jdbc_Condition_Operator_ rfl) rfl (by show 2 * 0 + _ ≤ _; exact Nat.le_of_eq rfl) (hb hby at_9) (fun _ _ => ⟨rfl, e0, (by decide : 0 + 0 ≤ _), (by decide : 0 + 0 ≤ _)⟩)
  dsimp only [Pt.U, Pt.locs, Pt.cells, Pt.slots] at X1 l1 y1 z1 st1 hQ1
  subst l1 y1 z1
  obtain ⟨rfl, N1q, e1⟩ := hQ1
  have N1 := Fr.app N0 N1q
  refine own_st st1 ?_
  show own_Fin p e below _ (T1.setTop (mkF m 12 #[.val (.int p0), .val (.int (5 : Int32)), .unset, .unset, .unset] [(.ref w_LESS_THAN_OR_EQUAL)]))
  refine own_st (fun t k => XS.astoreN X1.here hx rfl (hb hby at_12) rfl rfl (l' := #[.val (.int p0), .val (.int (5 : Int32)), .val (.ref w_LESS_THAN_OR_EQUAL), .unset, .unset]) rfl k) ?_
  show own_Fin p e below _ (T1.setTop (mkF m 13 #[.val (.int p0), .val (.int (5 : Int32)), .val (.ref w_LESS_THAN_OR_EQUAL), .unset, .unset] []))
  refine own_st (fun t k => XS.iloadN X1.here hx rfl (hb hby at_13) rfl k) ?_
  show own_Fin p e below _ (T1.setTop (mkF m 14 #[.val (.int p0), .val (.int (5 : Int32)), .val (.ref w_LESS_THAN_OR_EQUAL), .unset, .unset] [(.int (5 : Int32))]))
  refine own_st (fun t k => XS.bipush X1.here hx rfl (hb hby at_14) k) ?_
  show own_Fin p e below _ (T1.setTop (mkF m 16 #[.val (.int p0), .val (.int (5 : Int32)), .val (.ref w_LESS_THAN_OR_EQUAL), .unset, .unset] [(.int (18 : Int32)), (.int (5 : Int32))]))
  refine own_st (fun t k => XS.icmpNo X1.here hx rfl (hb hby at_16) rfl (by decide) k) ?_
  show own_Fin p e below _ (T1.setTop (mkF m 19 #[.val (.int p0), .val (.int (5 : Int32)), .val (.ref w_LESS_THAN_OR_EQUAL), .unset, .unset] []))
  refine own_st (fun t k => XS.iloadN X1.here hx rfl (hb hby at_19) rfl k) ?_
  show own_Fin p e below _ (T1.setTop (mkF m 20 #[.val (.int p0), .val (.int (5 : Int32)), .val (.ref w_LESS_THAN_OR_EQUAL), .unset, .unset] [(.int (5 : Int32))]))
  refine own_st (fun t k => XS.bipush X1.here hx rfl (hb hby at_20) k) ?_
  show own_Fin p e below _ (T1.setTop (mkF m 22 #[.val (.int p0), .val (.int (5 : Int32)), .val (.ref w_LESS_THAN_OR_EQUAL), .unset, .unset] [(.int (19 : Int32)), (.int (5 : Int32))]))
  refine own_st (fun t k => XS.icmpYes X1.here hx rfl (pc0 := 22) (pc' := 29) rfl (hb hby at_22) rfl (by decide) (by decide) (by decide) k) ?_
  show own_Fin p e below _ (T1.setTop (mkF m 29 #[.val (.int p0), .val (.int (5 : Int32)), .val (.ref w_LESS_THAN_OR_EQUAL), .unset, .unset] []))
  refine own_st (fun t k => XS.iconst X1.here hx rfl (hb hby at_29) k) ?_
  show own_Fin p e below _ (T1.setTop (mkF m 30 #[.val (.int p0), .val (.int (5 : Int32)), .val (.ref w_LESS_THAN_OR_EQUAL), .unset, .unset] [(.int (0 : Int32))]))
  refine own_st (fun t k => XS.istoreN X1.here hx rfl (hb hby at_30) rfl (l' := #[.val (.int p0), .val (.int (5 : Int32)), .val (.ref w_LESS_THAN_OR_EQUAL), .val (.int (0 : Int32)), .unset]) rfl k) ?_
  show own_Fin p e below _ (T1.setTop (mkF m 31 #[.val (.int p0), .val (.int (5 : Int32)), .val (.ref w_LESS_THAN_OR_EQUAL), .val (.int (0 : Int32)), .unset] []))
  refine own_st (fun t k => XS.aloadN X1.here hx rfl (hb hby at_31) rfl rfl k) ?_
  show own_Fin p e below _ (T1.setTop (mkF m 32 #[.val (.int p0), .val (.int (5 : Int32)), .val (.ref w_LESS_THAN_OR_EQUAL), .val (.int (0 : Int32)), .unset] [(.ref w_LESS_THAN_OR_EQUAL)]))
  obtain ⟨cq2, kq2, q2a, q2b, q2c⟩ := isOf hZ e1 E_LESS_THAN_OR_EQUAL
  obtain ⟨_, _, ⟨T2, L2, k2, n2⟩, -, X2, ⟨Lc2, hQ2, l2, y2, z2⟩, st2⟩ := X1.virtualBack hx (y := (⟨"com/example/rootward/rootward/jdbc/Condition$Operator", "testsTruth", "()Z"⟩ : MethodName)) (z := (⟨"com/example/rootward/rootward/jdbc/Condition$Operator", "testsTruth", "()Z"⟩ : MethodName)) hown (mvT hZ (hw _ (List.mem_of_getElem? (i := 8) rfl))) (mvT hZ (hw _ (List.mem_of_getElem? (i := 9) rfl))) (notFace_of_selects (args := #[]) (mvT hZ (hw _ (List.mem_of_getElem? (i := 11) rfl)))) (mvT hZ (hw _ (List.mem_of_getElem? (i := 11) rfl))) (mvT hZ (hw _ (List.mem_of_getElem? (i := 10) rfl))) (by decide) (backOf (W := 0) (rm2_w_LESS_THAN_OR_EQUAL l Z a0 hw [] w_EQUAL w_IS_TRUE w_IS_FALSE w_GREATER_THAN_OR_EQUAL w_IS_NULL w_IS_NOT_NULL w_STARTING_WITH w_NOT_BETWEEN w_GREATER_THAN w_IN w_NOT_EQUAL w_NOT_IN w_ENDING_WITH w_BETWEEN w_NOT_CONTAINING w_CONTAINING w_LIKE w_LESS_THAN_OR_EQUAL w_LESS_THAN w_NOT_LIKE h0 n0 PN) hZ (hw _ (List.mem_of_getElem? (i := 12) rfl)) (hw _ (List.mem_of_getElem? (i := 6) rfl)) (by decide) (by decide)) q2a q2c (g := (mkF m 32 #[.val (.int p0), .val (.int (5 : Int32)), .val (.ref w_LESS_THAN_OR_EQUAL), .val (.int (0 : Int32)), .unset] [(.ref w_LESS_THAN_OR_EQUAL)])) rfl (by rw [hml]; rfl) (Steps.refl _) (argsL := []) (rest := []) (lenOf pd___Z rfl) rfl (by show 2 * 0 + _ ≤ _; exact Nat.le_of_eq rfl) (hb hby at_32) (fun _ _ => ⟨rfl, e1, (by decide : 0 + 0 ≤ _), (by decide : 0 + 0 ≤ _)⟩)
  dsimp only [Pt.U, Pt.locs, Pt.cells, Pt.slots] at X2 l2 y2 z2 st2 hQ2
  subst l2 y2 z2
  obtain ⟨rfl, N2q, e2⟩ := hQ2
  have N2 := Fr.app N1 N2q
  refine own_tr st2 ?_
  show own_Fin p e below _ (T2.setTop (mkF m 35 #[.val (.int p0), .val (.int (5 : Int32)), .val (.ref w_LESS_THAN_OR_EQUAL), .val (.int (0 : Int32)), .unset] [(.int (0 : Int32))]))
  refine own_st (fun t k => XS.istore X2.here hx rfl (hb hby at_35) rfl (l' := #[.val (.int p0), .val (.int (5 : Int32)), .val (.ref w_LESS_THAN_OR_EQUAL), .val (.int (0 : Int32)), .val (.int (0 : Int32))]) rfl k) ?_
  show own_Fin p e below _ (T2.setTop (mkF m 37 #[.val (.int p0), .val (.int (5 : Int32)), .val (.ref w_LESS_THAN_OR_EQUAL), .val (.int (0 : Int32)), .val (.int (0 : Int32))] []))
  refine own_st (fun t k => XS.iload X2.here hx rfl (hb hby at_37) rfl k) ?_
  show own_Fin p e below _ (T2.setTop (mkF m 39 #[.val (.int p0), .val (.int (5 : Int32)), .val (.ref w_LESS_THAN_OR_EQUAL), .val (.int (0 : Int32)), .val (.int (0 : Int32))] [(.int (0 : Int32))]))
  refine own_st (fun t k => XS.iloadN X2.here hx rfl (hb hby at_39) rfl k) ?_
  show own_Fin p e below _ (T2.setTop (mkF m 40 #[.val (.int p0), .val (.int (5 : Int32)), .val (.ref w_LESS_THAN_OR_EQUAL), .val (.int (0 : Int32)), .val (.int (0 : Int32))] [(.int (0 : Int32)), (.int (0 : Int32))]))
  refine own_st (fun t k => XS.icmpYes X2.here hx rfl (pc0 := 40) (pc' := 45) rfl (hb hby at_40) rfl (by decide) (by decide) (by decide) k) ?_
  show own_Fin p e below _ (T2.setTop (mkF m 45 #[.val (.int p0), .val (.int (5 : Int32)), .val (.ref w_LESS_THAN_OR_EQUAL), .val (.int (0 : Int32)), .val (.int (0 : Int32))] []))
  refine own_st (fun t k => XS.iload X2.here hx rfl (hb hby at_45) rfl k) ?_
  show own_Fin p e below _ (T2.setTop (mkF m 47 #[.val (.int p0), .val (.int (5 : Int32)), .val (.ref w_LESS_THAN_OR_EQUAL), .val (.int (0 : Int32)), .val (.int (0 : Int32))] [(.int (0 : Int32))]))
  refine own_st (fun t k => XS.ifYes X2.here hx rfl (pc0 := 47) (pc' := 73) rfl (hb hby at_47) rfl (by decide) (by decide) (by decide) k) ?_
  show own_Fin p e below _ (T2.setTop (mkF m 73 #[.val (.int p0), .val (.int (5 : Int32)), .val (.ref w_LESS_THAN_OR_EQUAL), .val (.int (0 : Int32)), .val (.int (0 : Int32))] []))
  refine own_st (fun t k => XS.iconst X2.here hx rfl (hb hby at_73) k) ?_
  show own_Fin p e below _ (T2.setTop (mkF m 74 #[.val (.int p0), .val (.int (5 : Int32)), .val (.ref w_LESS_THAN_OR_EQUAL), .val (.int (0 : Int32)), .val (.int (0 : Int32))] [(.int (1 : Int32))]))
  obtain ⟨fs, hr, hrun, hended, hW, hsame⟩ := X2.leave (v := some (.int (1 : Int32))) (fun h => by rw [Bd.returns] at h; cases h)
  exact ⟨_, _, retN X2 hx (t := .boolean) Bd.returns (by simp) (hb hby at_74) hr, hrun, hended, _, _, rfl, ⟨rfl, N2, e2⟩, ⟨_, rfl⟩, hW, hsame.mono (by decide) (by decide)⟩
theorem d1_116 : decode method_2_code 116 = .ok (.getstatic 28, 3) := by decide +kernel
theorem d1_119 : decode method_2_code 119 = .ok (.areturn, 1) := by decide +kernel
set_option maxRecDepth 65536 in
set_option maxHeartbeats 40000000 in
theorem rm1_6 (l : Launch) (Z : State) (a0 : Array Value) (hw : ∀ d ∈ tables_1, d.before a0 Z = true) (ws : List Jvm.Cond) (w_EQUAL w_IS_TRUE w_IS_FALSE w_GREATER_THAN_OR_EQUAL w_IS_NULL w_IS_NOT_NULL w_STARTING_WITH w_NOT_BETWEEN w_GREATER_THAN w_IN w_NOT_EQUAL w_NOT_IN w_ENDING_WITH w_BETWEEN w_NOT_CONTAINING w_CONTAINING w_LIKE w_LESS_THAN_OR_EQUAL w_LESS_THAN w_NOT_LIKE : Addr) (h0 : Heap) (n0 : Nat) (PN : own_Pins Z h0 w_EQUAL w_IS_TRUE w_IS_FALSE w_GREATER_THAN_OR_EQUAL w_IS_NULL w_IS_NOT_NULL w_STARTING_WITH w_NOT_BETWEEN w_GREATER_THAN w_IN w_NOT_EQUAL w_NOT_IN w_ENDING_WITH w_BETWEEN w_NOT_CONTAINING w_CONTAINING w_LIKE w_LESS_THAN_OR_EQUAL w_LESS_THAN w_NOT_LIKE) :
    MetFree l (⟨"com/example/rootward/rootward/jdbc/OperatorTestsTruthPinLaw", "pick", "(I)Lcom/example/rootward/rootward/jdbc/Condition$Operator;"⟩ : MethodName) (head1 (Jvm.Cond.code (⟨"com/example/rootward/rootward/jdbc/OperatorTestsTruthPinLaw", "pick", "(I)Lcom/example/rootward/rootward/jdbc/Condition$Operator;"⟩ : MethodName) method_2_code 1 (some (.object "com/example/rootward/rootward/jdbc/Condition$Operator")) :: ws) ({ frames := 0, cells := 0, slots := 0, locals := 0 } : Room)) (fun a U => a = #[(.int (6 : Int32))] ∧ Z.Warmed39 U.vm ∧ U.heap = h0) (fun _ _ _ _ _ => True) (fun _ U o U' => ∃ v L, o = .returned v ∧ own_Q h0 n0 (some (.ref w_BETWEEN)) v U'.heap L ∧ FrameEnd U o U' L ({ frames := 0, cells := 0, slots := 0, locals := 0 } : Room).cells ({ frames := 0, cells := 0, slots := 0, locals := 0 } : Room).slots) := by
  have S_BETWEEN : Sta Z h0 "com/example/rootward/rootward/jdbc/Condition$Operator" "BETWEEN" "Lcom/example/rootward/rootward/jdbc/Condition$Operator;" (.ref w_BETWEEN) := PN.2.2.2.2.2.2.2.2.2.2.2.2.2.2.2.2.2.2.2.2.2.2.2.2.2.2.1
  refine MetFree.of_bodySF (plainFor_of_name pn_com_example_rootward_rootward_jdbc_OperatorTestsTruthPinLaw) hisR ?_
  intro p e s m args below meth c s₁ Bd hml0 hP hK
  obtain ⟨rfl, hZ, hh⟩ := hP
  have hx := Bd.exec
  have hby := Bd.bytes
  have hml : c.maxLocals = 1 := hml0
  have hown : s.vm.findClass "com/example/rootward/rootward/jdbc/OperatorTestsTruthPinLaw" = some m.cls := findClass_of_methodNamed Bd.named
  have X0 : Stand p l e ({ frames := 0, cells := 0, slots := 0, locals := 0 } : Room) s m #[(.int (6 : Int32))] below meth c s₁ [] 0 0 := Stand.of_body Bd
  have e0 : s₁.heap = h0 := by rw [← hh, Bd.state]; rfl
  have N0 := Fr.nil n0
  refine (?_ : own_Fin p e below _ _)
  refine own_st (fun t k => castTop (ef_1_I m (6 : Int32)) k) ?_
  show own_Fin p e below _ (s₁.setTop (mkF m 0 #[.val (.int (6 : Int32))] []))
  refine own_st (fun t k => XS.iloadN X0.here hx rfl (hb hby d1_0) rfl k) ?_
  show own_Fin p e below _ (s₁.setTop (mkF m 1 #[.val (.int (6 : Int32))] [(.int (6 : Int32))]))
  refine own_st (fun t k => XS.tswIn X0.here hx rfl (pc0 := 1) (pc' := 116) rfl (hb hby d1_1) rfl (by decide) (o := 115) (by decide) (by decide) (by decide) k) ?_
  show own_Fin p e below _ (s₁.setTop (mkF m 116 #[.val (.int (6 : Int32))] []))
  obtain ⟨T1, X1, e1, st1⟩ := getS2 X0 hx hZ hown (host := "") (Or.inl (hw _ (List.mem_of_getElem? (i := 58) rfl))) Via.refl e0 S_BETWEEN (g := (mkF m 116 #[.val (.int (6 : Int32))] [])) rfl (hb hby d1_116)
  refine own_st st1 ?_
  show own_Fin p e below _ (T1.setTop (mkF m 119 #[.val (.int (6 : Int32))] [(.ref w_BETWEEN)]))
  obtain ⟨fs, hr, hrun, hended, hW, hsame⟩ := X1.leave (v := some (.ref w_BETWEEN)) (fun h => by rw [Bd.returns] at h; cases h)
  exact ⟨_, _, retOut X1 hx (t := (.object "com/example/rootward/rootward/jdbc/Condition$Operator")) Bd.returns rfl (Or.inr (Or.inr (Or.inr (Or.inr ⟨rfl, rfl, rfl⟩)))) (hb hby d1_119) hr, hrun, hended, _, _, rfl, ⟨rfl, N0, e1⟩, ⟨_, rfl⟩, hW, hsame.mono (by decide) (by decide)⟩
set_option maxRecDepth 65536 in
set_option maxHeartbeats 40000000 in
theorem rm2_w_BETWEEN (l : Launch) (Z : State) (a0 : Array Value) (hw : ∀ d ∈ tables_1, d.before a0 Z = true) (ws : List Jvm.Cond) (w_EQUAL w_IS_TRUE w_IS_FALSE w_GREATER_THAN_OR_EQUAL w_IS_NULL w_IS_NOT_NULL w_STARTING_WITH w_NOT_BETWEEN w_GREATER_THAN w_IN w_NOT_EQUAL w_NOT_IN w_ENDING_WITH w_BETWEEN w_NOT_CONTAINING w_CONTAINING w_LIKE w_LESS_THAN_OR_EQUAL w_LESS_THAN w_NOT_LIKE : Addr) (h0 : Heap) (n0 : Nat) (PN : own_Pins Z h0 w_EQUAL w_IS_TRUE w_IS_FALSE w_GREATER_THAN_OR_EQUAL w_IS_NULL w_IS_NOT_NULL w_STARTING_WITH w_NOT_BETWEEN w_GREATER_THAN w_IN w_NOT_EQUAL w_NOT_IN w_ENDING_WITH w_BETWEEN w_NOT_CONTAINING w_CONTAINING w_LIKE w_LESS_THAN_OR_EQUAL w_LESS_THAN w_NOT_LIKE) :
    MetFree l (⟨"com/example/rootward/rootward/jdbc/Condition$Operator", "testsTruth", "()Z"⟩ : MethodName) (head1 (Jvm.Cond.code (⟨"com/example/rootward/rootward/jdbc/Condition$Operator", "testsTruth", "()Z"⟩ : MethodName) prog_32_method_8_code 1 (some .boolean) :: ws) ({ frames := 0, cells := 0, slots := 0, locals := 0 } : Room)) (fun a U => a = #[(.ref w_BETWEEN)] ∧ Z.Warmed39 U.vm ∧ U.heap = h0) (fun _ _ _ _ _ => True) (fun _ U o U' => ∃ v L, o = .returned v ∧ own_Q h0 n0 (some (.int (0 : Int32))) v U'.heap L ∧ FrameEnd U o U' L ({ frames := 0, cells := 0, slots := 0, locals := 0 } : Room).cells ({ frames := 0, cells := 0, slots := 0, locals := 0 } : Room).slots) := by
  have S_IS_TRUE : Sta Z h0 "com/example/rootward/rootward/jdbc/Condition$Operator" "IS_TRUE" "Lcom/example/rootward/rootward/jdbc/Condition$Operator;" (.ref w_IS_TRUE) := PN.2.2.1
  have S_IS_FALSE : Sta Z h0 "com/example/rootward/rootward/jdbc/Condition$Operator" "IS_FALSE" "Lcom/example/rootward/rootward/jdbc/Condition$Operator;" (.ref w_IS_FALSE) := PN.2.2.2.2.1
  have F_IS_TRUE_ordinal : Fld Z h0 w_IS_TRUE "java/lang/Enum" "ordinal" "I" (.int 18) := PN.2.2.2.2.2.2.2.2.2.2.2.2.2.2.2.2.2.2.2.2.2.2.2.2.2.2.2.2.2.2.2.2.2.2.2.2.2.2.2.2.2.1
  have F_IS_FALSE_ordinal : Fld Z h0 w_IS_FALSE "java/lang/Enum" "ordinal" "I" (.int 19) := PN.2.2.2.2.2.2.2.2.2.2.2.2.2.2.2.2.2.2.2.2.2.2.2.2.2.2.2.2.2.2.2.2.2.2.2.2.2.2.2.2.2.2.1
  have F_BETWEEN_ordinal : Fld Z h0 w_BETWEEN "java/lang/Enum" "ordinal" "I" (.int 6) := PN.2.2.2.2.2.2.2.2.2.2.2.2.2.2.2.2.2.2.2.2.2.2.2.2.2.2.2.2.2.2.2.2.2.2.2.2.2.2.2.2.2.2.2.2.2.2.2.2.2.2.2.2.2.2.2.1
  refine MetFree.of_bodySF (plainFor_of_name pn_com_example_rootward_rootward_jdbc_Condition_Operator) hisR ?_
  intro p e s m args below meth c s₁ Bd hml0 hP hK
  obtain ⟨rfl, hZ, hh⟩ := hP
  have hx := Bd.exec
  have hby := Bd.bytes
  have hml : c.maxLocals = 1 := hml0
  have hown : s.vm.findClass "com/example/rootward/rootward/jdbc/Condition$Operator" = some m.cls := findClass_of_methodNamed Bd.named
  have X0 : Stand p l e ({ frames := 0, cells := 0, slots := 0, locals := 0 } : Room) s m #[(.ref w_BETWEEN)] below meth c s₁ [] 0 0 := Stand.of_body Bd
  have e0 : s₁.heap = h0 := by rw [← hh, Bd.state]; rfl
  have N0 := Fr.nil n0
  refine (?_ : own_Fin p e below _ _)
  refine own_st (fun t k => castTop (ef_2_R m w_BETWEEN) k) ?_
  show own_Fin p e below _ (s₁.setTop (mkF m 0 #[.val (.ref w_BETWEEN)] []))
  refine own_st (fun t k => XS.aloadN X0.here hx rfl (hb hby d2_0) rfl rfl k) ?_
  show own_Fin p e below _ (s₁.setTop (mkF m 1 #[.val (.ref w_BETWEEN)] [(.ref w_BETWEEN)]))
  obtain ⟨T1, X1, e1, st1⟩ := getS2 X0 hx hZ hown (host := "") (Or.inl (hw _ (List.mem_of_getElem? (i := 13) rfl))) Via.refl e0 S_IS_TRUE (g := (mkF m 1 #[.val (.ref w_BETWEEN)] [(.ref w_BETWEEN)])) rfl (hb hby d2_1)
  refine own_st st1 ?_
  show own_Fin p e below _ (T1.setTop (mkF m 4 #[.val (.ref w_BETWEEN)] [(.ref w_IS_TRUE), (.ref w_BETWEEN)]))
  refine own_st (fun t k => Jvm.RoadKit.acmp (g := (mkF m 4 #[.val (.ref w_BETWEEN)] [(.ref w_IS_TRUE), (.ref w_BETWEEN)])) X1 hx rfl rfl rfl (pc0 := 4) (pc' := 7) (same := false) rfl (hb hby d2_4) rfl (decide_eq_false fun q => (Fld.ne F_BETWEEN_ordinal F_IS_TRUE_ordinal (by simp)) (Value.ref.inj q)) (by decide) (by decide) k) ?_
  show own_Fin p e below _ (T1.setTop (mkF m 7 #[.val (.ref w_BETWEEN)] []))
  refine own_st (fun t k => XS.aloadN X1.here hx rfl (hb hby d2_7) rfl rfl k) ?_
  show own_Fin p e below _ (T1.setTop (mkF m 8 #[.val (.ref w_BETWEEN)] [(.ref w_BETWEEN)]))
  obtain ⟨T2, X2, e2, st2⟩ := getS2 X1 hx hZ hown (host := "") (Or.inl (hw _ (List.mem_of_getElem? (i := 15) rfl))) Via.refl e1 S_IS_FALSE (g := (mkF m 8 #[.val (.ref w_BETWEEN)] [(.ref w_BETWEEN)])) rfl (hb hby d2_8)
  refine own_st st2 ?_
  show own_Fin p e below _ (T2.setTop (mkF m 11 #[.val (.ref w_BETWEEN)] [(.ref w_IS_FALSE), (.ref w_BETWEEN)]))
  refine own_st (fun t k => Jvm.RoadKit.acmp (g := (mkF m 11 #[.val (.ref w_BETWEEN)] [(.ref w_IS_FALSE), (.ref w_BETWEEN)])) X2 hx rfl rfl rfl (pc0 := 11) (pc' := 18) (same := false) rfl (hb hby d2_11) rfl (decide_eq_false fun q => (Fld.ne F_BETWEEN_ordinal F_IS_FALSE_ordinal (by simp)) (Value.ref.inj q)) (by decide) (by decide) k) ?_
  show own_Fin p e below _ (T2.setTop (mkF m 18 #[.val (.ref w_BETWEEN)] []))
  refine own_st (fun t k => XS.iconst X2.here hx rfl (hb hby d2_18) k) ?_
  show own_Fin p e below _ (T2.setTop (mkF m 19 #[.val (.ref w_BETWEEN)] [(.int (0 : Int32))]))
  obtain ⟨fs, hr, hrun, hended, hW, hsame⟩ := X2.leave (v := some (.int (0 : Int32))) (fun h => by rw [Bd.returns] at h; cases h)
  exact ⟨_, _, retN X2 hx (t := .boolean) Bd.returns (by simp) (hb hby d2_19) hr, hrun, hended, _, _, rfl, ⟨rfl, N0, e2⟩, ⟨_, rfl⟩, hW, hsame.mono (by decide) (by decide)⟩
set_option maxRecDepth 65536 in
set_option maxHeartbeats 40000000 in
theorem rm0_c6 (l : Launch) (Z : State) (a0 : Array Value) (hw : ∀ d ∈ tables_1, d.before a0 Z = true) (ws : List Jvm.Cond) (w_EQUAL w_IS_TRUE w_IS_FALSE w_GREATER_THAN_OR_EQUAL w_IS_NULL w_IS_NOT_NULL w_STARTING_WITH w_NOT_BETWEEN w_GREATER_THAN w_IN w_NOT_EQUAL w_NOT_IN w_ENDING_WITH w_BETWEEN w_NOT_CONTAINING w_CONTAINING w_LIKE w_LESS_THAN_OR_EQUAL w_LESS_THAN w_NOT_LIKE : Addr) (p0 : Int32) (h0 : Heap) (n0 : Nat) (PN : own_Pins Z h0 w_EQUAL w_IS_TRUE w_IS_FALSE w_GREATER_THAN_OR_EQUAL w_IS_NULL w_IS_NOT_NULL w_STARTING_WITH w_NOT_BETWEEN w_GREATER_THAN w_IN w_NOT_EQUAL w_NOT_IN w_ENDING_WITH w_BETWEEN w_NOT_CONTAINING w_CONTAINING w_LIKE w_LESS_THAN_OR_EQUAL w_LESS_THAN w_NOT_LIKE) (q0 : ((p0 &&& (2147483647 : Int32)) % (20 : Int32)) = (6 : Int32)) :
    MetFree l x (head1 (Jvm.Cond.code x code maxLocals ret :: ws) room_1) (fun a U => a = #[(.int p0)] ∧ Z.Warmed39 U.vm ∧ U.heap = h0) (fun _ _ _ _ _ => True) (fun _ U o U' => ∃ v L, o = .returned v ∧ own_Q h0 n0 (some (.int (1 : Int32))) v U'.heap L ∧ FrameEnd U o U' L room_1.cells room_1.slots) := by
  have E_BETWEEN : Exa Z h0 w_BETWEEN "com/example/rootward/rootward/jdbc/Condition$Operator" := PN.2.2.2.2.2.2.2.2.2.2.2.2.2.2.2.2.2.2.2.2.2.2.2.2.2.2.2.1
  refine MetFree.of_bodySF (plainFor_of_name pn_com_example_rootward_rootward_jdbc_OperatorTestsTruthPinLaw) hisR ?_
  intro p e s m args below meth c s₁ Bd hml0 hP hK
  obtain ⟨rfl, hZ, hh⟩ := hP
  have hx := Bd.exec
  have hby := Bd.bytes
  have hml : c.maxLocals = 5 := hml0
  have hown : s.vm.findClass "com/example/rootward/rootward/jdbc/OperatorTestsTruthPinLaw" = some m.cls := findClass_of_methodNamed Bd.named
  have X0 : Stand p l e room_1 s m #[(.int p0)] below meth c s₁ [] 0 0 := Stand.of_body Bd
  have e0 : s₁.heap = h0 := by rw [← hh, Bd.state]; rfl
  have N0 := Fr.nil n0
  refine (?_ : own_Fin p e below _ _)
  refine own_st (fun t k => castTop (ef_0_I m p0) k) ?_
  show own_Fin p e below _ (s₁.setTop (mkF m 0 #[.val (.int p0), .unset, .unset, .unset, .unset] []))
  refine own_st (fun t k => XS.iloadN X0.here hx rfl (hb hby at_0) rfl k) ?_
  show own_Fin p e below _ (s₁.setTop (mkF m 1 #[.val (.int p0), .unset, .unset, .unset, .unset] [(.int p0)]))
  refine own_st (fun t k => X0.ldcI hx hown (mvT hZ (hw _ (List.mem_of_getElem? (i := 0) rfl))) rfl (hb hby at_1) k) ?_
  show own_Fin p e below _ (s₁.setTop (mkF m 3 #[.val (.int p0), .unset, .unset, .unset, .unset] [(.int (2147483647 : Int32)), (.int p0)]))
  refine own_st (fun t k => XS.iand X0.here hx rfl (hb hby at_3) rfl k) ?_
  show own_Fin p e below _ (s₁.setTop (mkF m 4 #[.val (.int p0), .unset, .unset, .unset, .unset] [(.int (p0 &&& (2147483647 : Int32)))]))
  refine own_st (fun t k => XS.bipush X0.here hx rfl (hb hby at_4) k) ?_
  show own_Fin p e below _ (s₁.setTop (mkF m 6 #[.val (.int p0), .unset, .unset, .unset, .unset] [(.int (20 : Int32)), (.int (p0 &&& (2147483647 : Int32)))]))
  refine own_st (fun t k => iremM X0 hx rfl (hb hby at_6) rfl (by decide) k) ?_
  show own_Fin p e below _ (s₁.setTop (mkF m 7 #[.val (.int p0), .unset, .unset, .unset, .unset] [(.int ((p0 &&& (2147483647 : Int32)) % (20 : Int32)))]))
  rw [q0]
  show own_Fin p e below _ (s₁.setTop (mkF m 7 #[.val (.int p0), .unset, .unset, .unset, .unset] [(.int (6 : Int32))]))
  refine own_st (fun t k => XS.istoreN X0.here hx rfl (hb hby at_7) rfl (l' := #[.val (.int p0), .val (.int (6 : Int32)), .unset, .unset, .unset]) rfl k) ?_
  show own_Fin p e below _ (s₁.setTop (mkF m 8 #[.val (.int p0), .val (.int (6 : Int32)), .unset, .unset, .unset] []))
  refine own_st (fun t k => XS.iloadN X0.here hx rfl (hb hby at_8) rfl k) ?_
  show own_Fin p e below _ (s₁.setTop (mkF m 9 #[.val (.int p0), .val (.int (6 : Int32)), .unset, .unset, .unset] [(.int (6 : Int32))]))
  obtain ⟨_, _, ⟨T1, L1, k1, n1⟩, -, X1, ⟨Lc1, hQ1, l1, y1, z1⟩, st1⟩ := Jvm.LawKit.callS X0 hx (y := (⟨"com/example/rootward/rootward/jdbc/OperatorTestsTruthPinLaw", "pick", "(I)Lcom/example/rootward/rootward/jdbc/Condition$Operator;"⟩ : MethodName)) hown (mvT hZ (hw _ (List.mem_of_getElem? (i := 1) rfl))) (mvT hZ (hw _ (List.mem_of_getElem? (i := 2) rfl))) (mvT hZ (hw _ (List.mem_of_getElem? (i := 3) rfl))) (mvT hZ (hw _ (List.mem_of_getElem? (i := 4) rfl))) (by decide) (backOf (W := 0) (rm1_6 l Z a0 hw [] w_EQUAL w_IS_TRUE w_IS_FALSE w_GREATER_THAN_OR_EQUAL w_IS_NULL w_IS_NOT_NULL w_STARTING_WITH w_NOT_BETWEEN w_GREATER_THAN w_IN w_NOT_EQUAL w_NOT_IN w_ENDING_WITH w_BETWEEN w_NOT_CONTAINING w_CONTAINING w_LIKE w_LESS_THAN_OR_EQUAL w_LESS_THAN w_NOT_LIKE h0 n0 PN) hZ (hw _ (List.mem_of_getElem? (i := 4) rfl)) (hw _ (List.mem_of_getElem? (i := 3) rfl)) (by decide) (by decide)) (g := (mkF m 9 #[.val (.int p0), .val (.int (6 : Int32)), .unset, .unset, .unset] [(.int (6 : Int32))])) rfl (by rw [hml]; rfl) (argsL := [(.int (6 : Int32))]) (rest := []) (lenOf pd__I_Lcom_example_rootward_rootward_jdbc_Condition_Operator_ rfl) rfl (by show 2 * 0 + _ ≤ _; exact Nat.le_of_eq rfl) (hb hby at_9) (fun _ _ => ⟨rfl, e0, (by decide : 0 + 0 ≤ _), (by decide : 0 + 0 ≤ _)⟩)
  dsimp only [Pt.U, Pt.locs, Pt.cells, Pt.slots] at X1 l1 y1 z1 st1 hQ1
  subst l1 y1 z1
  obtain ⟨rfl, N1q, e1⟩ := hQ1
  have N1 := Fr.app N0 N1q
  refine own_st st1 ?_
  show own_Fin p e below _ (T1.setTop (mkF m 12 #[.val (.int p0), .val (.int (6 : Int32)), .unset, .unset, .unset] [(.ref w_BETWEEN)]))
  refine own_st (fun t k => XS.astoreN X1.here hx rfl (hb hby at_12) rfl rfl (l' := #[.val (.int p0), .val (.int (6 : Int32)), .val (.ref w_BETWEEN), .unset, .unset]) rfl k) ?_
  show own_Fin p e below _ (T1.setTop (mkF m 13 #[.val (.int p0), .val (.int (6 : Int32)), .val (.ref w_BETWEEN), .unset, .unset] []))
  refine own_st (fun t k => XS.iloadN X1.here hx rfl (hb hby at_13) rfl k) ?_
  show own_Fin p e below _ (T1.setTop (mkF m 14 #[.val (.int p0), .val (.int (6 : Int32)), .val (.ref w_BETWEEN), .unset, .unset] [(.int (6 : Int32))]))
  refine own_st (fun t k => XS.bipush X1.here hx rfl (hb hby at_14) k) ?_
  show own_Fin p e below _ (T1.setTop (mkF m 16 #[.val (.int p0), .val (.int (6 : Int32)), .val (.ref w_BETWEEN), .unset, .unset] [(.int (18 : Int32)), (.int (6 : Int32))]))
  refine own_st (fun t k => XS.icmpNo X1.here hx rfl (hb hby at_16) rfl (by decide) k) ?_
  show own_Fin p e below _ (T1.setTop (mkF m 19 #[.val (.int p0), .val (.int (6 : Int32)), .val (.ref w_BETWEEN), .unset, .unset] []))
  refine own_st (fun t k => XS.iloadN X1.here hx rfl (hb hby at_19) rfl k) ?_
  show own_Fin p e below _ (T1.setTop (mkF m 20 #[.val (.int p0), .val (.int (6 : Int32)), .val (.ref w_BETWEEN), .unset, .unset] [(.int (6 : Int32))]))
  refine own_st (fun t k => XS.bipush X1.here hx rfl (hb hby at_20) k) ?_
  show own_Fin p e below _ (T1.setTop (mkF m 22 #[.val (.int p0), .val (.int (6 : Int32)), .val (.ref w_BETWEEN), .unset, .unset] [(.int (19 : Int32)), (.int (6 : Int32))]))
  refine own_st (fun t k => XS.icmpYes X1.here hx rfl (pc0 := 22) (pc' := 29) rfl (hb hby at_22) rfl (by decide) (by decide) (by decide) k) ?_
  show own_Fin p e below _ (T1.setTop (mkF m 29 #[.val (.int p0), .val (.int (6 : Int32)), .val (.ref w_BETWEEN), .unset, .unset] []))
  refine own_st (fun t k => XS.iconst X1.here hx rfl (hb hby at_29) k) ?_
  show own_Fin p e below _ (T1.setTop (mkF m 30 #[.val (.int p0), .val (.int (6 : Int32)), .val (.ref w_BETWEEN), .unset, .unset] [(.int (0 : Int32))]))
  refine own_st (fun t k => XS.istoreN X1.here hx rfl (hb hby at_30) rfl (l' := #[.val (.int p0), .val (.int (6 : Int32)), .val (.ref w_BETWEEN), .val (.int (0 : Int32)), .unset]) rfl k) ?_
  show own_Fin p e below _ (T1.setTop (mkF m 31 #[.val (.int p0), .val (.int (6 : Int32)), .val (.ref w_BETWEEN), .val (.int (0 : Int32)), .unset] []))
  refine own_st (fun t k => XS.aloadN X1.here hx rfl (hb hby at_31) rfl rfl k) ?_
  show own_Fin p e below _ (T1.setTop (mkF m 32 #[.val (.int p0), .val (.int (6 : Int32)), .val (.ref w_BETWEEN), .val (.int (0 : Int32)), .unset] [(.ref w_BETWEEN)]))
  obtain ⟨cq2, kq2, q2a, q2b, q2c⟩ := isOf hZ e1 E_BETWEEN
  obtain ⟨_, _, ⟨T2, L2, k2, n2⟩, -, X2, ⟨Lc2, hQ2, l2, y2, z2⟩, st2⟩ := X1.virtualBack hx (y := (⟨"com/example/rootward/rootward/jdbc/Condition$Operator", "testsTruth", "()Z"⟩ : MethodName)) (z := (⟨"com/example/rootward/rootward/jdbc/Condition$Operator", "testsTruth", "()Z"⟩ : MethodName)) hown (mvT hZ (hw _ (List.mem_of_getElem? (i := 8) rfl))) (mvT hZ (hw _ (List.mem_of_getElem? (i := 9) rfl))) (notFace_of_selects (args := #[]) (mvT hZ (hw _ (List.mem_of_getElem? (i := 11) rfl)))) (mvT hZ (hw _ (List.mem_of_getElem? (i := 11) rfl))) (mvT hZ (hw _ (List.mem_of_getElem? (i := 10) rfl))) (by decide) (backOf (W := 0) (rm2_w_BETWEEN l Z a0 hw [] w_EQUAL w_IS_TRUE w_IS_FALSE w_GREATER_THAN_OR_EQUAL w_IS_NULL w_IS_NOT_NULL w_STARTING_WITH w_NOT_BETWEEN w_GREATER_THAN w_IN w_NOT_EQUAL w_NOT_IN w_ENDING_WITH w_BETWEEN w_NOT_CONTAINING w_CONTAINING w_LIKE w_LESS_THAN_OR_EQUAL w_LESS_THAN w_NOT_LIKE h0 n0 PN) hZ (hw _ (List.mem_of_getElem? (i := 12) rfl)) (hw _ (List.mem_of_getElem? (i := 6) rfl)) (by decide) (by decide)) q2a q2c (g := (mkF m 32 #[.val (.int p0), .val (.int (6 : Int32)), .val (.ref w_BETWEEN), .val (.int (0 : Int32)), .unset] [(.ref w_BETWEEN)])) rfl (by rw [hml]; rfl) (Steps.refl _) (argsL := []) (rest := []) (lenOf pd___Z rfl) rfl (by show 2 * 0 + _ ≤ _; exact Nat.le_of_eq rfl) (hb hby at_32) (fun _ _ => ⟨rfl, e1, (by decide : 0 + 0 ≤ _), (by decide : 0 + 0 ≤ _)⟩)
  dsimp only [Pt.U, Pt.locs, Pt.cells, Pt.slots] at X2 l2 y2 z2 st2 hQ2
  subst l2 y2 z2
  obtain ⟨rfl, N2q, e2⟩ := hQ2
  have N2 := Fr.app N1 N2q
  refine own_tr st2 ?_
  show own_Fin p e below _ (T2.setTop (mkF m 35 #[.val (.int p0), .val (.int (6 : Int32)), .val (.ref w_BETWEEN), .val (.int (0 : Int32)), .unset] [(.int (0 : Int32))]))
  refine own_st (fun t k => XS.istore X2.here hx rfl (hb hby at_35) rfl (l' := #[.val (.int p0), .val (.int (6 : Int32)), .val (.ref w_BETWEEN), .val (.int (0 : Int32)), .val (.int (0 : Int32))]) rfl k) ?_
  show own_Fin p e below _ (T2.setTop (mkF m 37 #[.val (.int p0), .val (.int (6 : Int32)), .val (.ref w_BETWEEN), .val (.int (0 : Int32)), .val (.int (0 : Int32))] []))
  refine own_st (fun t k => XS.iload X2.here hx rfl (hb hby at_37) rfl k) ?_
  show own_Fin p e below _ (T2.setTop (mkF m 39 #[.val (.int p0), .val (.int (6 : Int32)), .val (.ref w_BETWEEN), .val (.int (0 : Int32)), .val (.int (0 : Int32))] [(.int (0 : Int32))]))
  refine own_st (fun t k => XS.iloadN X2.here hx rfl (hb hby at_39) rfl k) ?_
  show own_Fin p e below _ (T2.setTop (mkF m 40 #[.val (.int p0), .val (.int (6 : Int32)), .val (.ref w_BETWEEN), .val (.int (0 : Int32)), .val (.int (0 : Int32))] [(.int (0 : Int32)), (.int (0 : Int32))]))
  refine own_st (fun t k => XS.icmpYes X2.here hx rfl (pc0 := 40) (pc' := 45) rfl (hb hby at_40) rfl (by decide) (by decide) (by decide) k) ?_
  show own_Fin p e below _ (T2.setTop (mkF m 45 #[.val (.int p0), .val (.int (6 : Int32)), .val (.ref w_BETWEEN), .val (.int (0 : Int32)), .val (.int (0 : Int32))] []))
  refine own_st (fun t k => XS.iload X2.here hx rfl (hb hby at_45) rfl k) ?_
  show own_Fin p e below _ (T2.setTop (mkF m 47 #[.val (.int p0), .val (.int (6 : Int32)), .val (.ref w_BETWEEN), .val (.int (0 : Int32)), .val (.int (0 : Int32))] [(.int (0 : Int32))]))
  refine own_st (fun t k => XS.ifYes X2.here hx rfl (pc0 := 47) (pc' := 73) rfl (hb hby at_47) rfl (by decide) (by decide) (by decide) k) ?_
  show own_Fin p e below _ (T2.setTop (mkF m 73 #[.val (.int p0), .val (.int (6 : Int32)), .val (.ref w_BETWEEN), .val (.int (0 : Int32)), .val (.int (0 : Int32))] []))
  refine own_st (fun t k => XS.iconst X2.here hx rfl (hb hby at_73) k) ?_
  show own_Fin p e below _ (T2.setTop (mkF m 74 #[.val (.int p0), .val (.int (6 : Int32)), .val (.ref w_BETWEEN), .val (.int (0 : Int32)), .val (.int (0 : Int32))] [(.int (1 : Int32))]))
  obtain ⟨fs, hr, hrun, hended, hW, hsame⟩ := X2.leave (v := some (.int (1 : Int32))) (fun h => by rw [Bd.returns] at h; cases h)
  exact ⟨_, _, retN X2 hx (t := .boolean) Bd.returns (by simp) (hb hby at_74) hr, hrun, hended, _, _, rfl, ⟨rfl, N2, e2⟩, ⟨_, rfl⟩, hW, hsame.mono (by decide) (by decide)⟩
theorem d1_120 : decode method_2_code 120 = .ok (.getstatic 31, 3) := by decide +kernel
theorem d1_123 : decode method_2_code 123 = .ok (.areturn, 1) := by decide +kernel
set_option maxRecDepth 65536 in
set_option maxHeartbeats 40000000 in
theorem rm1_7 (l : Launch) (Z : State) (a0 : Array Value) (hw : ∀ d ∈ tables_1, d.before a0 Z = true) (ws : List Jvm.Cond) (w_EQUAL w_IS_TRUE w_IS_FALSE w_GREATER_THAN_OR_EQUAL w_IS_NULL w_IS_NOT_NULL w_STARTING_WITH w_NOT_BETWEEN w_GREATER_THAN w_IN w_NOT_EQUAL w_NOT_IN w_ENDING_WITH w_BETWEEN w_NOT_CONTAINING w_CONTAINING w_LIKE w_LESS_THAN_OR_EQUAL w_LESS_THAN w_NOT_LIKE : Addr) (h0 : Heap) (n0 : Nat) (PN : own_Pins Z h0 w_EQUAL w_IS_TRUE w_IS_FALSE w_GREATER_THAN_OR_EQUAL w_IS_NULL w_IS_NOT_NULL w_STARTING_WITH w_NOT_BETWEEN w_GREATER_THAN w_IN w_NOT_EQUAL w_NOT_IN w_ENDING_WITH w_BETWEEN w_NOT_CONTAINING w_CONTAINING w_LIKE w_LESS_THAN_OR_EQUAL w_LESS_THAN w_NOT_LIKE) :
    MetFree l (⟨"com/example/rootward/rootward/jdbc/OperatorTestsTruthPinLaw", "pick", "(I)Lcom/example/rootward/rootward/jdbc/Condition$Operator;"⟩ : MethodName) (head1 (Jvm.Cond.code (⟨"com/example/rootward/rootward/jdbc/OperatorTestsTruthPinLaw", "pick", "(I)Lcom/example/rootward/rootward/jdbc/Condition$Operator;"⟩ : MethodName) method_2_code 1 (some (.object "com/example/rootward/rootward/jdbc/Condition$Operator")) :: ws) ({ frames := 0, cells := 0, slots := 0, locals := 0 } : Room)) (fun a U => a = #[(.int (7 : Int32))] ∧ Z.Warmed39 U.vm ∧ U.heap = h0) (fun _ _ _ _ _ => True) (fun _ U o U' => ∃ v L, o = .returned v ∧ own_Q h0 n0 (some (.ref w_NOT_BETWEEN)) v U'.heap L ∧ FrameEnd U o U' L ({ frames := 0, cells := 0, slots := 0, locals := 0 } : Room).cells ({ frames := 0, cells := 0, slots := 0, locals := 0 } : Room).slots) := by
  have S_NOT_BETWEEN : Sta Z h0 "com/example/rootward/rootward/jdbc/Condition$Operator" "NOT_BETWEEN" "Lcom/example/rootward/rootward/jdbc/Condition$Operator;" (.ref w_NOT_BETWEEN) := PN.2.2.2.2.2.2.2.2.2.2.2.2.2.2.1
  refine MetFree.of_bodySF (plainFor_of_name pn_com_example_rootward_rootward_jdbc_OperatorTestsTruthPinLaw) hisR ?_
  intro p e s m args below meth c s₁ Bd hml0 hP hK
  obtain ⟨rfl, hZ, hh⟩ := hP
  have hx := Bd.exec
  have hby := Bd.bytes
  have hml : c.maxLocals = 1 := hml0
  have hown : s.vm.findClass "com/example/rootward/rootward/jdbc/OperatorTestsTruthPinLaw" = some m.cls := findClass_of_methodNamed Bd.named
  have X0 : Stand p l e ({ frames := 0, cells := 0, slots := 0, locals := 0 } : Room) s m #[(.int (7 : Int32))] below meth c s₁ [] 0 0 := Stand.of_body Bd
  have e0 : s₁.heap = h0 := by rw [← hh, Bd.state]; rfl
  have N0 := Fr.nil n0
  refine (?_ : own_Fin p e below _ _)
  refine own_st (fun t k => castTop (ef_1_I m (7 : Int32)) k) ?_
  show own_Fin p e below _ (s₁.setTop (mkF m 0 #[.val (.int (7 : Int32))] []))
  refine own_st (fun t k => XS.iloadN X0.here hx rfl (hb hby d1_0) rfl k) ?_
  show own_Fin p e below _ (s₁.setTop (mkF m 1 #[.val (.int (7 : Int32))] [(.int (7 : Int32))]))
  refine own_st (fun t k => XS.tswIn X0.here hx rfl (pc0 := 1) (pc' := 120) rfl (hb hby d1_1) rfl (by decide) (o := 119) (by decide) (by decide) (by decide) k) ?_
  show own_Fin p e below _ (s₁.setTop (mkF m 120 #[.val (.int (7 : Int32))] []))
  obtain ⟨T1, X1, e1, st1⟩ := getS2 X0 hx hZ hown (host := "") (Or.inl (hw _ (List.mem_of_getElem? (i := 25) rfl))) Via.refl e0 S_NOT_BETWEEN (g := (mkF m 120 #[.val (.int (7 : Int32))] [])) rfl (hb hby d1_120)
  refine own_st st1 ?_
  show own_Fin p e below _ (T1.setTop (mkF m 123 #[.val (.int (7 : Int32))] [(.ref w_NOT_BETWEEN)]))
  obtain ⟨fs, hr, hrun, hended, hW, hsame⟩ := X1.leave (v := some (.ref w_NOT_BETWEEN)) (fun h => by rw [Bd.returns] at h; cases h)
  exact ⟨_, _, retOut X1 hx (t := (.object "com/example/rootward/rootward/jdbc/Condition$Operator")) Bd.returns rfl (Or.inr (Or.inr (Or.inr (Or.inr ⟨rfl, rfl, rfl⟩)))) (hb hby d1_123) hr, hrun, hended, _, _, rfl, ⟨rfl, N0, e1⟩, ⟨_, rfl⟩, hW, hsame.mono (by decide) (by decide)⟩
set_option maxRecDepth 65536 in
set_option maxHeartbeats 40000000 in
theorem rm2_w_NOT_BETWEEN (l : Launch) (Z : State) (a0 : Array Value) (hw : ∀ d ∈ tables_1, d.before a0 Z = true) (ws : List Jvm.Cond) (w_EQUAL w_IS_TRUE w_IS_FALSE w_GREATER_THAN_OR_EQUAL w_IS_NULL w_IS_NOT_NULL w_STARTING_WITH w_NOT_BETWEEN w_GREATER_THAN w_IN w_NOT_EQUAL w_NOT_IN w_ENDING_WITH w_BETWEEN w_NOT_CONTAINING w_CONTAINING w_LIKE w_LESS_THAN_OR_EQUAL w_LESS_THAN w_NOT_LIKE : Addr) (h0 : Heap) (n0 : Nat) (PN : own_Pins Z h0 w_EQUAL w_IS_TRUE w_IS_FALSE w_GREATER_THAN_OR_EQUAL w_IS_NULL w_IS_NOT_NULL w_STARTING_WITH w_NOT_BETWEEN w_GREATER_THAN w_IN w_NOT_EQUAL w_NOT_IN w_ENDING_WITH w_BETWEEN w_NOT_CONTAINING w_CONTAINING w_LIKE w_LESS_THAN_OR_EQUAL w_LESS_THAN w_NOT_LIKE) :
    MetFree l (⟨"com/example/rootward/rootward/jdbc/Condition$Operator", "testsTruth", "()Z"⟩ : MethodName) (head1 (Jvm.Cond.code (⟨"com/example/rootward/rootward/jdbc/Condition$Operator", "testsTruth", "()Z"⟩ : MethodName) prog_32_method_8_code 1 (some .boolean) :: ws) ({ frames := 0, cells := 0, slots := 0, locals := 0 } : Room)) (fun a U => a = #[(.ref w_NOT_BETWEEN)] ∧ Z.Warmed39 U.vm ∧ U.heap = h0) (fun _ _ _ _ _ => True) (fun _ U o U' => ∃ v L, o = .returned v ∧ own_Q h0 n0 (some (.int (0 : Int32))) v U'.heap L ∧ FrameEnd U o U' L ({ frames := 0, cells := 0, slots := 0, locals := 0 } : Room).cells ({ frames := 0, cells := 0, slots := 0, locals := 0 } : Room).slots) := by
  have S_IS_TRUE : Sta Z h0 "com/example/rootward/rootward/jdbc/Condition$Operator" "IS_TRUE" "Lcom/example/rootward/rootward/jdbc/Condition$Operator;" (.ref w_IS_TRUE) := PN.2.2.1
  have S_IS_FALSE : Sta Z h0 "com/example/rootward/rootward/jdbc/Condition$Operator" "IS_FALSE" "Lcom/example/rootward/rootward/jdbc/Condition$Operator;" (.ref w_IS_FALSE) := PN.2.2.2.2.1
  have F_IS_TRUE_ordinal : Fld Z h0 w_IS_TRUE "java/lang/Enum" "ordinal" "I" (.int 18) := PN.2.2.2.2.2.2.2.2.2.2.2.2.2.2.2.2.2.2.2.2.2.2.2.2.2.2.2.2.2.2.2.2.2.2.2.2.2.2.2.2.2.1
  have F_IS_FALSE_ordinal : Fld Z h0 w_IS_FALSE "java/lang/Enum" "ordinal" "I" (.int 19) := PN.2.2.2.2.2.2.2.2.2.2.2.2.2.2.2.2.2.2.2.2.2.2.2.2.2.2.2.2.2.2.2.2.2.2.2.2.2.2.2.2.2.2.1
  have F_NOT_BETWEEN_ordinal : Fld Z h0 w_NOT_BETWEEN "java/lang/Enum" "ordinal" "I" (.int 7) := PN.2.2.2.2.2.2.2.2.2.2.2.2.2.2.2.2.2.2.2.2.2.2.2.2.2.2.2.2.2.2.2.2.2.2.2.2.2.2.2.2.2.2.2.2.2.2.2.1
  refine MetFree.of_bodySF (plainFor_of_name pn_com_example_rootward_rootward_jdbc_Condition_Operator) hisR ?_
  intro p e s m args below meth c s₁ Bd hml0 hP hK
  obtain ⟨rfl, hZ, hh⟩ := hP
  have hx := Bd.exec
  have hby := Bd.bytes
  have hml : c.maxLocals = 1 := hml0
  have hown : s.vm.findClass "com/example/rootward/rootward/jdbc/Condition$Operator" = some m.cls := findClass_of_methodNamed Bd.named
  have X0 : Stand p l e ({ frames := 0, cells := 0, slots := 0, locals := 0 } : Room) s m #[(.ref w_NOT_BETWEEN)] below meth c s₁ [] 0 0 := Stand.of_body Bd
  have e0 : s₁.heap = h0 := by rw [← hh, Bd.state]; rfl
  have N0 := Fr.nil n0
  refine (?_ : own_Fin p e below _ _)
  refine own_st (fun t k => castTop (ef_2_R m w_NOT_BETWEEN) k) ?_
  show own_Fin p e below _ (s₁.setTop (mkF m 0 #[.val (.ref w_NOT_BETWEEN)] []))
  refine own_st (fun t k => XS.aloadN X0.here hx rfl (hb hby d2_0) rfl rfl k) ?_
  show own_Fin p e below _ (s₁.setTop (mkF m 1 #[.val (.ref w_NOT_BETWEEN)] [(.ref w_NOT_BETWEEN)]))
  obtain ⟨T1, X1, e1, st1⟩ := getS2 X0 hx hZ hown (host := "") (Or.inl (hw _ (List.mem_of_getElem? (i := 13) rfl))) Via.refl e0 S_IS_TRUE (g := (mkF m 1 #[.val (.ref w_NOT_BETWEEN)] [(.ref w_NOT_BETWEEN)])) rfl (hb hby d2_1)
  refine own_st st1 ?_
  show own_Fin p e below _ (T1.setTop (mkF m 4 #[.val (.ref w_NOT_BETWEEN)] [(.ref w_IS_TRUE), (.ref w_NOT_BETWEEN)]))
  refine own_st (fun t k => Jvm.RoadKit.acmp (g := (mkF m 4 #[.val (.ref w_NOT_BETWEEN)] [(.ref w_IS_TRUE), (.ref w_NOT_BETWEEN)])) X1 hx rfl rfl rfl (pc0 := 4) (pc' := 7) (same := false) rfl (hb hby d2_4) rfl (decide_eq_false fun q => (Fld.ne F_NOT_BETWEEN_ordinal F_IS_TRUE_ordinal (by simp)) (Value.ref.inj q)) (by decide) (by decide) k) ?_
  show own_Fin p e below _ (T1.setTop (mkF m 7 #[.val (.ref w_NOT_BETWEEN)] []))
  refine own_st (fun t k => XS.aloadN X1.here hx rfl (hb hby d2_7) rfl rfl k) ?_
  show own_Fin p e below _ (T1.setTop (mkF m 8 #[.val (.ref w_NOT_BETWEEN)] [(.ref w_NOT_BETWEEN)]))
  obtain ⟨T2, X2, e2, st2⟩ := getS2 X1 hx hZ hown (host := "") (Or.inl (hw _ (List.mem_of_getElem? (i := 15) rfl))) Via.refl e1 S_IS_FALSE (g := (mkF m 8 #[.val (.ref w_NOT_BETWEEN)] [(.ref w_NOT_BETWEEN)])) rfl (hb hby d2_8)
  refine own_st st2 ?_
  show own_Fin p e below _ (T2.setTop (mkF m 11 #[.val (.ref w_NOT_BETWEEN)] [(.ref w_IS_FALSE), (.ref w_NOT_BETWEEN)]))
  refine own_st (fun t k => Jvm.RoadKit.acmp (g := (mkF m 11 #[.val (.ref w_NOT_BETWEEN)] [(.ref w_IS_FALSE), (.ref w_NOT_BETWEEN)])) X2 hx rfl rfl rfl (pc0 := 11) (pc' := 18) (same := false) rfl (hb hby d2_11) rfl (decide_eq_false fun q => (Fld.ne F_NOT_BETWEEN_ordinal F_IS_FALSE_ordinal (by simp)) (Value.ref.inj q)) (by decide) (by decide) k) ?_
  show own_Fin p e below _ (T2.setTop (mkF m 18 #[.val (.ref w_NOT_BETWEEN)] []))
  refine own_st (fun t k => XS.iconst X2.here hx rfl (hb hby d2_18) k) ?_
  show own_Fin p e below _ (T2.setTop (mkF m 19 #[.val (.ref w_NOT_BETWEEN)] [(.int (0 : Int32))]))
  obtain ⟨fs, hr, hrun, hended, hW, hsame⟩ := X2.leave (v := some (.int (0 : Int32))) (fun h => by rw [Bd.returns] at h; cases h)
  exact ⟨_, _, retN X2 hx (t := .boolean) Bd.returns (by simp) (hb hby d2_19) hr, hrun, hended, _, _, rfl, ⟨rfl, N0, e2⟩, ⟨_, rfl⟩, hW, hsame.mono (by decide) (by decide)⟩
set_option maxRecDepth 65536 in
set_option maxHeartbeats 40000000 in
theorem rm0_c7 (l : Launch) (Z : State) (a0 : Array Value) (hw : ∀ d ∈ tables_1, d.before a0 Z = true) (ws : List Jvm.Cond) (w_EQUAL w_IS_TRUE w_IS_FALSE w_GREATER_THAN_OR_EQUAL w_IS_NULL w_IS_NOT_NULL w_STARTING_WITH w_NOT_BETWEEN w_GREATER_THAN w_IN w_NOT_EQUAL w_NOT_IN w_ENDING_WITH w_BETWEEN w_NOT_CONTAINING w_CONTAINING w_LIKE w_LESS_THAN_OR_EQUAL w_LESS_THAN w_NOT_LIKE : Addr) (p0 : Int32) (h0 : Heap) (n0 : Nat) (PN : own_Pins Z h0 w_EQUAL w_IS_TRUE w_IS_FALSE w_GREATER_THAN_OR_EQUAL w_IS_NULL w_IS_NOT_NULL w_STARTING_WITH w_NOT_BETWEEN w_GREATER_THAN w_IN w_NOT_EQUAL w_NOT_IN w_ENDING_WITH w_BETWEEN w_NOT_CONTAINING w_CONTAINING w_LIKE w_LESS_THAN_OR_EQUAL w_LESS_THAN w_NOT_LIKE) (q0 : ((p0 &&& (2147483647 : Int32)) % (20 : Int32)) = (7 : Int32)) :
    MetFree l x (head1 (Jvm.Cond.code x code maxLocals ret :: ws) room_1) (fun a U => a = #[(.int p0)] ∧ Z.Warmed39 U.vm ∧ U.heap = h0) (fun _ _ _ _ _ => True) (fun _ U o U' => ∃ v L, o = .returned v ∧ own_Q h0 n0 (some (.int (1 : Int32))) v U'.heap L ∧ FrameEnd U o U' L room_1.cells room_1.slots) := by
  have E_NOT_BETWEEN : Exa Z h0 w_NOT_BETWEEN "com/example/rootward/rootward/jdbc/Condition$Operator" := PN.2.2.2.2.2.2.2.2.2.2.2.2.2.2.2.1
  refine MetFree.of_bodySF (plainFor_of_name pn_com_example_rootward_rootward_jdbc_OperatorTestsTruthPinLaw) hisR ?_
  intro p e s m args below meth c s₁ Bd hml0 hP hK
  obtain ⟨rfl, hZ, hh⟩ := hP
  have hx := Bd.exec
  have hby := Bd.bytes
  have hml : c.maxLocals = 5 := hml0
  have hown : s.vm.findClass "com/example/rootward/rootward/jdbc/OperatorTestsTruthPinLaw" = some m.cls := findClass_of_methodNamed Bd.named
  have X0 : Stand p l e room_1 s m #[(.int p0)] below meth c s₁ [] 0 0 := Stand.of_body Bd
  have e0 : s₁.heap = h0 := by rw [← hh, Bd.state]; rfl
  have N0 := Fr.nil n0
  refine (?_ : own_Fin p e below _ _)
  refine own_st (fun t k => castTop (ef_0_I m p0) k) ?_
  show own_Fin p e below _ (s₁.setTop (mkF m 0 #[.val (.int p0), .unset, .unset, .unset, .unset] []))
  refine own_st (fun t k => XS.iloadN X0.here hx rfl (hb hby at_0) rfl k) ?_
  show own_Fin p e below _ (s₁.setTop (mkF m 1 #[.val (.int p0), .unset, .unset, .unset, .unset] [(.int p0)]))
  refine own_st (fun t k => X0.ldcI hx hown (mvT hZ (hw _ (List.mem_of_getElem? (i := 0) rfl))) rfl (hb hby at_1) k) ?_
  show own_Fin p e below _ (s₁.setTop (mkF m 3 #[.val (.int p0), .unset, .unset, .unset, .unset] [(.int (2147483647 : Int32)), (.int p0)]))
  refine own_st (fun t k => XS.iand X0.here hx rfl (hb hby at_3) rfl k) ?_
  show own_Fin p e below _ (s₁.setTop (mkF m 4 #[.val (.int p0), .unset, .unset, .unset, .unset] [(.int (p0 &&& (2147483647 : Int32)))]))
  refine own_st (fun t k => XS.bipush X0.here hx rfl (hb hby at_4) k) ?_
  show own_Fin p e below _ (s₁.setTop (mkF m 6 #[.val (.int p0), .unset, .unset, .unset, .unset] [(.int (20 : Int32)), (.int (p0 &&& (2147483647 : Int32)))]))
  refine own_st (fun t k => iremM X0 hx rfl (hb hby at_6) rfl (by decide) k) ?_
  show own_Fin p e below _ (s₁.setTop (mkF m 7 #[.val (.int p0), .unset, .unset, .unset, .unset] [(.int ((p0 &&& (2147483647 : Int32)) % (20 : Int32)))]))
  rw [q0]
  show own_Fin p e below _ (s₁.setTop (mkF m 7 #[.val (.int p0), .unset, .unset, .unset, .unset] [(.int (7 : Int32))]))
  refine own_st (fun t k => XS.istoreN X0.here hx rfl (hb hby at_7) rfl (l' := #[.val (.int p0), .val (.int (7 : Int32)), .unset, .unset, .unset]) rfl k) ?_
  show own_Fin p e below _ (s₁.setTop (mkF m 8 #[.val (.int p0), .val (.int (7 : Int32)), .unset, .unset, .unset] []))
  refine own_st (fun t k => XS.iloadN X0.here hx rfl (hb hby at_8) rfl k) ?_
  show own_Fin p e below _ (s₁.setTop (mkF m 9 #[.val (.int p0), .val (.int (7 : Int32)), .unset, .unset, .unset] [(.int (7 : Int32))]))
  obtain ⟨_, _, ⟨T1, L1, k1, n1⟩, -, X1, ⟨Lc1, hQ1, l1, y1, z1⟩, st1⟩ := Jvm.LawKit.callS X0 hx (y := (⟨"com/example/rootward/rootward/jdbc/OperatorTestsTruthPinLaw", "pick", "(I)Lcom/example/rootward/rootward/jdbc/Condition$Operator;"⟩ : MethodName)) hown (mvT hZ (hw _ (List.mem_of_getElem? (i := 1) rfl))) (mvT hZ (hw _ (List.mem_of_getElem? (i := 2) rfl))) (mvT hZ (hw _ (List.mem_of_getElem? (i := 3) rfl))) (mvT hZ (hw _ (List.mem_of_getElem? (i := 4) rfl))) (by decide) (backOf (W := 0) (rm1_7 l Z a0 hw [] w_EQUAL w_IS_TRUE w_IS_FALSE w_GREATER_THAN_OR_EQUAL w_IS_NULL w_IS_NOT_NULL w_STARTING_WITH w_NOT_BETWEEN w_GREATER_THAN w_IN w_NOT_EQUAL w_NOT_IN w_ENDING_WITH w_BETWEEN w_NOT_CONTAINING w_CONTAINING w_LIKE w_LESS_THAN_OR_EQUAL w_LESS_THAN w_NOT_LIKE h0 n0 PN) hZ (hw _ (List.mem_of_getElem? (i := 4) rfl)) (hw _ (List.mem_of_getElem? (i := 3) rfl)) (by decide) (by decide)) (g := (mkF m 9 #[.val (.int p0), .val (.int (7 : Int32)), .unset, .unset, .unset] [(.int (7 : Int32))])) rfl (by rw [hml]; rfl) (argsL := [(.int (7 : Int32))]) (rest := []) (lenOf pd__I_Lcom_example_rootward_rootward_jdbc_Condition_Operator_ rfl) rfl (by show 2 * 0 + _ ≤ _; exact Nat.le_of_eq rfl) (hb hby at_9) (fun _ _ => ⟨rfl, e0, (by decide : 0 + 0 ≤ _), (by decide : 0 + 0 ≤ _)⟩)
  dsimp only [Pt.U, Pt.locs, Pt.cells, Pt.slots] at X1 l1 y1 z1 st1 hQ1
  subst l1 y1 z1
  obtain ⟨rfl, N1q, e1⟩ := hQ1
  have N1 := Fr.app N0 N1q
  refine own_st st1 ?_
  show own_Fin p e below _ (T1.setTop (mkF m 12 #[.val (.int p0), .val (.int (7 : Int32)), .unset, .unset, .unset] [(.ref w_NOT_BETWEEN)]))
  refine own_st (fun t k => XS.astoreN X1.here hx rfl (hb hby at_12) rfl rfl (l' := #[.val (.int p0), .val (.int (7 : Int32)), .val (.ref w_NOT_BETWEEN), .unset, .unset]) rfl k) ?_
  show own_Fin p e below _ (T1.setTop (mkF m 13 #[.val (.int p0), .val (.int (7 : Int32)), .val (.ref w_NOT_BETWEEN), .unset, .unset] []))
  refine own_st (fun t k => XS.iloadN X1.here hx rfl (hb hby at_13) rfl k) ?_
  show own_Fin p e below _ (T1.setTop (mkF m 14 #[.val (.int p0), .val (.int (7 : Int32)), .val (.ref w_NOT_BETWEEN), .unset, .unset] [(.int (7 : Int32))]))
  refine own_st (fun t k => XS.bipush X1.here hx rfl (hb hby at_14) k) ?_
  show own_Fin p e below _ (T1.setTop (mkF m 16 #[.val (.int p0), .val (.int (7 : Int32)), .val (.ref w_NOT_BETWEEN), .unset, .unset] [(.int (18 : Int32)), (.int (7 : Int32))]))
  refine own_st (fun t k => XS.icmpNo X1.here hx rfl (hb hby at_16) rfl (by decide) k) ?_
  show own_Fin p e below _ (T1.setTop (mkF m 19 #[.val (.int p0), .val (.int (7 : Int32)), .val (.ref w_NOT_BETWEEN), .unset, .unset] []))
  refine own_st (fun t k => XS.iloadN X1.here hx rfl (hb hby at_19) rfl k) ?_
  show own_Fin p e below _ (T1.setTop (mkF m 20 #[.val (.int p0), .val (.int (7 : Int32)), .val (.ref w_NOT_BETWEEN), .unset, .unset] [(.int (7 : Int32))]))
  refine own_st (fun t k => XS.bipush X1.here hx rfl (hb hby at_20) k) ?_
  show own_Fin p e below _ (T1.setTop (mkF m 22 #[.val (.int p0), .val (.int (7 : Int32)), .val (.ref w_NOT_BETWEEN), .unset, .unset] [(.int (19 : Int32)), (.int (7 : Int32))]))
  refine own_st (fun t k => XS.icmpYes X1.here hx rfl (pc0 := 22) (pc' := 29) rfl (hb hby at_22) rfl (by decide) (by decide) (by decide) k) ?_
  show own_Fin p e below _ (T1.setTop (mkF m 29 #[.val (.int p0), .val (.int (7 : Int32)), .val (.ref w_NOT_BETWEEN), .unset, .unset] []))
  refine own_st (fun t k => XS.iconst X1.here hx rfl (hb hby at_29) k) ?_
  show own_Fin p e below _ (T1.setTop (mkF m 30 #[.val (.int p0), .val (.int (7 : Int32)), .val (.ref w_NOT_BETWEEN), .unset, .unset] [(.int (0 : Int32))]))
  refine own_st (fun t k => XS.istoreN X1.here hx rfl (hb hby at_30) rfl (l' := #[.val (.int p0), .val (.int (7 : Int32)), .val (.ref w_NOT_BETWEEN), .val (.int (0 : Int32)), .unset]) rfl k) ?_
  show own_Fin p e below _ (T1.setTop (mkF m 31 #[.val (.int p0), .val (.int (7 : Int32)), .val (.ref w_NOT_BETWEEN), .val (.int (0 : Int32)), .unset] []))
  refine own_st (fun t k => XS.aloadN X1.here hx rfl (hb hby at_31) rfl rfl k) ?_
  show own_Fin p e below _ (T1.setTop (mkF m 32 #[.val (.int p0), .val (.int (7 : Int32)), .val (.ref w_NOT_BETWEEN), .val (.int (0 : Int32)), .unset] [(.ref w_NOT_BETWEEN)]))
  obtain ⟨cq2, kq2, q2a, q2b, q2c⟩ := isOf hZ e1 E_NOT_BETWEEN
  obtain ⟨_, _, ⟨T2, L2, k2, n2⟩, -, X2, ⟨Lc2, hQ2, l2, y2, z2⟩, st2⟩ := X1.virtualBack hx (y := (⟨"com/example/rootward/rootward/jdbc/Condition$Operator", "testsTruth", "()Z"⟩ : MethodName)) (z := (⟨"com/example/rootward/rootward/jdbc/Condition$Operator", "testsTruth", "()Z"⟩ : MethodName)) hown (mvT hZ (hw _ (List.mem_of_getElem? (i := 8) rfl))) (mvT hZ (hw _ (List.mem_of_getElem? (i := 9) rfl))) (notFace_of_selects (args := #[]) (mvT hZ (hw _ (List.mem_of_getElem? (i := 11) rfl)))) (mvT hZ (hw _ (List.mem_of_getElem? (i := 11) rfl))) (mvT hZ (hw _ (List.mem_of_getElem? (i := 10) rfl))) (by decide) (backOf (W := 0) (rm2_w_NOT_BETWEEN l Z a0 hw [] w_EQUAL w_IS_TRUE w_IS_FALSE w_GREATER_THAN_OR_EQUAL w_IS_NULL w_IS_NOT_NULL w_STARTING_WITH w_NOT_BETWEEN w_GREATER_THAN w_IN w_NOT_EQUAL w_NOT_IN w_ENDING_WITH w_BETWEEN w_NOT_CONTAINING w_CONTAINING w_LIKE w_LESS_THAN_OR_EQUAL w_LESS_THAN w_NOT_LIKE h0 n0 PN) hZ (hw _ (List.mem_of_getElem? (i := 12) rfl)) (hw _ (List.mem_of_getElem? (i := 6) rfl)) (by decide) (by decide)) q2a q2c (g := (mkF m 32 #[.val (.int p0), .val (.int (7 : Int32)), .val (.ref w_NOT_BETWEEN), .val (.int (0 : Int32)), .unset] [(.ref w_NOT_BETWEEN)])) rfl (by rw [hml]; rfl) (Steps.refl _) (argsL := []) (rest := []) (lenOf pd___Z rfl) rfl (by show 2 * 0 + _ ≤ _; exact Nat.le_of_eq rfl) (hb hby at_32) (fun _ _ => ⟨rfl, e1, (by decide : 0 + 0 ≤ _), (by decide : 0 + 0 ≤ _)⟩)
  dsimp only [Pt.U, Pt.locs, Pt.cells, Pt.slots] at X2 l2 y2 z2 st2 hQ2
  subst l2 y2 z2
  obtain ⟨rfl, N2q, e2⟩ := hQ2
  have N2 := Fr.app N1 N2q
  refine own_tr st2 ?_
  show own_Fin p e below _ (T2.setTop (mkF m 35 #[.val (.int p0), .val (.int (7 : Int32)), .val (.ref w_NOT_BETWEEN), .val (.int (0 : Int32)), .unset] [(.int (0 : Int32))]))
  refine own_st (fun t k => XS.istore X2.here hx rfl (hb hby at_35) rfl (l' := #[.val (.int p0), .val (.int (7 : Int32)), .val (.ref w_NOT_BETWEEN), .val (.int (0 : Int32)), .val (.int (0 : Int32))]) rfl k) ?_
  show own_Fin p e below _ (T2.setTop (mkF m 37 #[.val (.int p0), .val (.int (7 : Int32)), .val (.ref w_NOT_BETWEEN), .val (.int (0 : Int32)), .val (.int (0 : Int32))] []))
  refine own_st (fun t k => XS.iload X2.here hx rfl (hb hby at_37) rfl k) ?_
  show own_Fin p e below _ (T2.setTop (mkF m 39 #[.val (.int p0), .val (.int (7 : Int32)), .val (.ref w_NOT_BETWEEN), .val (.int (0 : Int32)), .val (.int (0 : Int32))] [(.int (0 : Int32))]))
  refine own_st (fun t k => XS.iloadN X2.here hx rfl (hb hby at_39) rfl k) ?_
  show own_Fin p e below _ (T2.setTop (mkF m 40 #[.val (.int p0), .val (.int (7 : Int32)), .val (.ref w_NOT_BETWEEN), .val (.int (0 : Int32)), .val (.int (0 : Int32))] [(.int (0 : Int32)), (.int (0 : Int32))]))
  refine own_st (fun t k => XS.icmpYes X2.here hx rfl (pc0 := 40) (pc' := 45) rfl (hb hby at_40) rfl (by decide) (by decide) (by decide) k) ?_
  show own_Fin p e below _ (T2.setTop (mkF m 45 #[.val (.int p0), .val (.int (7 : Int32)), .val (.ref w_NOT_BETWEEN), .val (.int (0 : Int32)), .val (.int (0 : Int32))] []))
  refine own_st (fun t k => XS.iload X2.here hx rfl (hb hby at_45) rfl k) ?_
  show own_Fin p e below _ (T2.setTop (mkF m 47 #[.val (.int p0), .val (.int (7 : Int32)), .val (.ref w_NOT_BETWEEN), .val (.int (0 : Int32)), .val (.int (0 : Int32))] [(.int (0 : Int32))]))
  refine own_st (fun t k => XS.ifYes X2.here hx rfl (pc0 := 47) (pc' := 73) rfl (hb hby at_47) rfl (by decide) (by decide) (by decide) k) ?_
  show own_Fin p e below _ (T2.setTop (mkF m 73 #[.val (.int p0), .val (.int (7 : Int32)), .val (.ref w_NOT_BETWEEN), .val (.int (0 : Int32)), .val (.int (0 : Int32))] []))
  refine own_st (fun t k => XS.iconst X2.here hx rfl (hb hby at_73) k) ?_
  show own_Fin p e below _ (T2.setTop (mkF m 74 #[.val (.int p0), .val (.int (7 : Int32)), .val (.ref w_NOT_BETWEEN), .val (.int (0 : Int32)), .val (.int (0 : Int32))] [(.int (1 : Int32))]))
  obtain ⟨fs, hr, hrun, hended, hW, hsame⟩ := X2.leave (v := some (.int (1 : Int32))) (fun h => by rw [Bd.returns] at h; cases h)
  exact ⟨_, _, retN X2 hx (t := .boolean) Bd.returns (by simp) (hb hby at_74) hr, hrun, hended, _, _, rfl, ⟨rfl, N2, e2⟩, ⟨_, rfl⟩, hW, hsame.mono (by decide) (by decide)⟩
theorem d1_124 : decode method_2_code 124 = .ok (.getstatic 34, 3) := by decide +kernel
theorem d1_127 : decode method_2_code 127 = .ok (.areturn, 1) := by decide +kernel
set_option maxRecDepth 65536 in
set_option maxHeartbeats 40000000 in
theorem rm1_8 (l : Launch) (Z : State) (a0 : Array Value) (hw : ∀ d ∈ tables_1, d.before a0 Z = true) (ws : List Jvm.Cond) (w_EQUAL w_IS_TRUE w_IS_FALSE w_GREATER_THAN_OR_EQUAL w_IS_NULL w_IS_NOT_NULL w_STARTING_WITH w_NOT_BETWEEN w_GREATER_THAN w_IN w_NOT_EQUAL w_NOT_IN w_ENDING_WITH w_BETWEEN w_NOT_CONTAINING w_CONTAINING w_LIKE w_LESS_THAN_OR_EQUAL w_LESS_THAN w_NOT_LIKE : Addr) (h0 : Heap) (n0 : Nat) (PN : own_Pins Z h0 w_EQUAL w_IS_TRUE w_IS_FALSE w_GREATER_THAN_OR_EQUAL w_IS_NULL w_IS_NOT_NULL w_STARTING_WITH w_NOT_BETWEEN w_GREATER_THAN w_IN w_NOT_EQUAL w_NOT_IN w_ENDING_WITH w_BETWEEN w_NOT_CONTAINING w_CONTAINING w_LIKE w_LESS_THAN_OR_EQUAL w_LESS_THAN w_NOT_LIKE) :
    MetFree l (⟨"com/example/rootward/rootward/jdbc/OperatorTestsTruthPinLaw", "pick", "(I)Lcom/example/rootward/rootward/jdbc/Condition$Operator;"⟩ : MethodName) (head1 (Jvm.Cond.code (⟨"com/example/rootward/rootward/jdbc/OperatorTestsTruthPinLaw", "pick", "(I)Lcom/example/rootward/rootward/jdbc/Condition$Operator;"⟩ : MethodName) method_2_code 1 (some (.object "com/example/rootward/rootward/jdbc/Condition$Operator")) :: ws) ({ frames := 0, cells := 0, slots := 0, locals := 0 } : Room)) (fun a U => a = #[(.int (8 : Int32))] ∧ Z.Warmed39 U.vm ∧ U.heap = h0) (fun _ _ _ _ _ => True) (fun _ U o U' => ∃ v L, o = .returned v ∧ own_Q h0 n0 (some (.ref w_IN)) v U'.heap L ∧ FrameEnd U o U' L ({ frames := 0, cells := 0, slots := 0, locals := 0 } : Room).cells ({ frames := 0, cells := 0, slots := 0, locals := 0 } : Room).slots) := by
  have S_IN : Sta Z h0 "com/example/rootward/rootward/jdbc/Condition$Operator" "IN" "Lcom/example/rootward/rootward/jdbc/Condition$Operator;" (.ref w_IN) := PN.2.2.2.2.2.2.2.2.2.2.2.2.2.2.2.2.2.2.1
  refine MetFree.of_bodySF (plainFor_of_name pn_com_example_rootward_rootward_jdbc_OperatorTestsTruthPinLaw) hisR ?_
  intro p e s m args below meth c s₁ Bd hml0 hP hK
  obtain ⟨rfl, hZ, hh⟩ := hP
  have hx := Bd.exec
  have hby := Bd.bytes
  have hml : c.maxLocals = 1 := hml0
  have hown : s.vm.findClass "com/example/rootward/rootward/jdbc/OperatorTestsTruthPinLaw" = some m.cls := findClass_of_methodNamed Bd.named
  have X0 : Stand p l e ({ frames := 0, cells := 0, slots := 0, locals := 0 } : Room) s m #[(.int (8 : Int32))] below meth c s₁ [] 0 0 := Stand.of_body Bd
  have e0 : s₁.heap = h0 := by rw [← hh, Bd.state]; rfl
  have N0 := Fr.nil n0
  refine (?_ : own_Fin p e below _ _)
  refine own_st (fun t k => castTop (ef_1_I m (8 : Int32)) k) ?_
  show own_Fin p e below _ (s₁.setTop (mkF m 0 #[.val (.int (8 : Int32))] []))
  refine own_st (fun t k => XS.iloadN X0.here hx rfl (hb hby d1_0) rfl k) ?_
  show own_Fin p e below _ (s₁.setTop (mkF m 1 #[.val (.int (8 : Int32))] [(.int (8 : Int32))]))
  refine own_st (fun t k => XS.tswIn X0.here hx rfl (pc0 := 1) (pc' := 124) rfl (hb hby d1_1) rfl (by decide) (o := 123) (by decide) (by decide) (by decide) k) ?_
  show own_Fin p e below _ (s₁.setTop (mkF m 124 #[.val (.int (8 : Int32))] []))
  obtain ⟨T1, X1, e1, st1⟩ := getS2 X0 hx hZ hown (host := "") (Or.inl (hw _ (List.mem_of_getElem? (i := 29) rfl))) Via.refl e0 S_IN (g := (mkF m 124 #[.val (.int (8 : Int32))] [])) rfl (hb hby d1_124)
  refine own_st st1 ?_
  show own_Fin p e below _ (T1.setTop (mkF m 127 #[.val (.int (8 : Int32))] [(.ref w_IN)]))
  obtain ⟨fs, hr, hrun, hended, hW, hsame⟩ := X1.leave (v := some (.ref w_IN)) (fun h => by rw [Bd.returns] at h; cases h)
  exact ⟨_, _, retOut X1 hx (t := (.object "com/example/rootward/rootward/jdbc/Condition$Operator")) Bd.returns rfl (Or.inr (Or.inr (Or.inr (Or.inr ⟨rfl, rfl, rfl⟩)))) (hb hby d1_127) hr, hrun, hended, _, _, rfl, ⟨rfl, N0, e1⟩, ⟨_, rfl⟩, hW, hsame.mono (by decide) (by decide)⟩
set_option maxRecDepth 65536 in
set_option maxHeartbeats 40000000 in
theorem rm2_w_IN (l : Launch) (Z : State) (a0 : Array Value) (hw : ∀ d ∈ tables_1, d.before a0 Z = true) (ws : List Jvm.Cond) (w_EQUAL w_IS_TRUE w_IS_FALSE w_GREATER_THAN_OR_EQUAL w_IS_NULL w_IS_NOT_NULL w_STARTING_WITH w_NOT_BETWEEN w_GREATER_THAN w_IN w_NOT_EQUAL w_NOT_IN w_ENDING_WITH w_BETWEEN w_NOT_CONTAINING w_CONTAINING w_LIKE w_LESS_THAN_OR_EQUAL w_LESS_THAN w_NOT_LIKE : Addr) (h0 : Heap) (n0 : Nat) (PN : own_Pins Z h0 w_EQUAL w_IS_TRUE w_IS_FALSE w_GREATER_THAN_OR_EQUAL w_IS_NULL w_IS_NOT_NULL w_STARTING_WITH w_NOT_BETWEEN w_GREATER_THAN w_IN w_NOT_EQUAL w_NOT_IN w_ENDING_WITH w_BETWEEN w_NOT_CONTAINING w_CONTAINING w_LIKE w_LESS_THAN_OR_EQUAL w_LESS_THAN w_NOT_LIKE) :
    MetFree l (⟨"com/example/rootward/rootward/jdbc/Condition$Operator", "testsTruth", "()Z"⟩ : MethodName) (head1 (Jvm.Cond.code (⟨"com/example/rootward/rootward/jdbc/Condition$Operator", "testsTruth", "()Z"⟩ : MethodName) prog_32_method_8_code 1 (some .boolean) :: ws) ({ frames := 0, cells := 0, slots := 0, locals := 0 } : Room)) (fun a U => a = #[(.ref w_IN)] ∧ Z.Warmed39 U.vm ∧ U.heap = h0) (fun _ _ _ _ _ => True) (fun _ U o U' => ∃ v L, o = .returned v ∧ own_Q h0 n0 (some (.int (0 : Int32))) v U'.heap L ∧ FrameEnd U o U' L ({ frames := 0, cells := 0, slots := 0, locals := 0 } : Room).cells ({ frames := 0, cells := 0, slots := 0, locals := 0 } : Room).slots) := by
  have S_IS_TRUE : Sta Z h0 "com/example/rootward/rootward/jdbc/Condition$Operator" "IS_TRUE" "Lcom/example/rootward/rootward/jdbc/Condition$Operator;" (.ref w_IS_TRUE) := PN.2.2.1
  have S_IS_FALSE : Sta Z h0 "com/example/rootward/rootward/jdbc/Condition$Operator" "IS_FALSE" "Lcom/example/rootward/rootward/jdbc/Condition$Operator;" (.ref w_IS_FALSE) := PN.2.2.2.2.1
  have F_IS_TRUE_ordinal : Fld Z h0 w_IS_TRUE "java/lang/Enum" "ordinal" "I" (.int 18) := PN.2.2.2.2.2.2.2.2.2.2.2.2.2.2.2.2.2.2.2.2.2.2.2.2.2.2.2.2.2.2.2.2.2.2.2.2.2.2.2.2.2.1
  have F_IS_FALSE_ordinal : Fld Z h0 w_IS_FALSE "java/lang/Enum" "ordinal" "I" (.int 19) := PN.2.2.2.2.2.2.2.2.2.2.2.2.2.2.2.2.2.2.2.2.2.2.2.2.2.2.2.2.2.2.2.2.2.2.2.2.2.2.2.2.2.2.1
  have F_IN_ordinal : Fld Z h0 w_IN "java/lang/Enum" "ordinal" "I" (.int 8) := PN.2.2.2.2.2.2.2.2.2.2.2.2.2.2.2.2.2.2.2.2.2.2.2.2.2.2.2.2.2.2.2.2.2.2.2.2.2.2.2.2.2.2.2.2.2.2.2.2.2.1
  refine MetFree.of_bodySF (plainFor_of_name pn_com_example_rootward_rootward_jdbc_Condition_Operator) hisR ?_
  intro p e s m args below meth c s₁ Bd hml0 hP hK
  obtain ⟨rfl, hZ, hh⟩ := hP
  have hx := Bd.exec
  have hby := Bd.bytes
  have hml : c.maxLocals = 1 := hml0
  have hown : s.vm.findClass "com/example/rootward/rootward/jdbc/Condition$Operator" = some m.cls := findClass_of_methodNamed Bd.named
  have X0 : Stand p l e ({ frames := 0, cells := 0, slots := 0, locals := 0 } : Room) s m #[(.ref w_IN)] below meth c s₁ [] 0 0 := Stand.of_body Bd
  have e0 : s₁.heap = h0 := by rw [← hh, Bd.state]; rfl
  have N0 := Fr.nil n0
  refine (?_ : own_Fin p e below _ _)
  refine own_st (fun t k => castTop (ef_2_R m w_IN) k) ?_
  show own_Fin p e below _ (s₁.setTop (mkF m 0 #[.val (.ref w_IN)] []))
  refine own_st (fun t k => XS.aloadN X0.here hx rfl (hb hby d2_0) rfl rfl k) ?_
  show own_Fin p e below _ (s₁.setTop (mkF m 1 #[.val (.ref w_IN)] [(.ref w_IN)]))
  obtain ⟨T1, X1, e1, st1⟩ := getS2 X0 hx hZ hown (host := "") (Or.inl (hw _ (List.mem_of_getElem? (i := 13) rfl))) Via.refl e0 S_IS_TRUE (g := (mkF m 1 #[.val (.ref w_IN)] [(.ref w_IN)])) rfl (hb hby d2_1)
  refine own_st st1 ?_
  show own_Fin p e below _ (T1.setTop (mkF m 4 #[.val (.ref w_IN)] [(.ref w_IS_TRUE), (.ref w_IN)]))
  refine own_st (fun t k => Jvm.RoadKit.acmp (g := (mkF m 4 #[.val (.ref w_IN)] [(.ref w_IS_TRUE), (.ref w_IN)])) X1 hx rfl rfl rfl (pc0 := 4) (pc' := 7) (same := false) rfl (hb hby d2_4) rfl (decide_eq_false fun q => (Fld.ne F_IN_ordinal F_IS_TRUE_ordinal (by simp)) (Value.ref.inj q)) (by decide) (by decide) k) ?_
  show own_Fin p e below _ (T1.setTop (mkF m 7 #[.val (.ref w_IN)] []))
  refine own_st (fun t k => XS.aloadN X1.here hx rfl (hb hby d2_7) rfl rfl k) ?_
  show own_Fin p e below _ (T1.setTop (mkF m 8 #[.val (.ref w_IN)] [(.ref w_IN)]))
  obtain ⟨T2, X2, e2, st2⟩ := getS2 X1 hx hZ hown (host := "") (Or.inl (hw _ (List.mem_of_getElem? (i := 15) rfl))) Via.refl e1 S_IS_FALSE (g := (mkF m 8 #[.val (.ref w_IN)] [(.ref w_IN)])) rfl (hb hby d2_8)
  refine own_st st2 ?_
  show own_Fin p e below _ (T2.setTop (mkF m 11 #[.val (.ref w_IN)] [(.ref w_IS_FALSE), (.ref w_IN)]))
  refine own_st (fun t k => Jvm.RoadKit.acmp (g := (mkF m 11 #[.val (.ref w_IN)] [(.ref w_IS_FALSE), (.ref w_IN)])) X2 hx rfl rfl rfl (pc0 := 11) (pc' := 18) (same := false) rfl (hb hby d2_11) rfl (decide_eq_false fun q => (Fld.ne F_IN_ordinal F_IS_FALSE_ordinal (by simp)) (Value.ref.inj q)) (by decide) (by decide) k) ?_
  show own_Fin p e below _ (T2.setTop (mkF m 18 #[.val (.ref w_IN)] []))
  refine own_st (fun t k => XS.iconst X2.here hx rfl (hb hby d2_18) k) ?_
  show own_Fin p e below _ (T2.setTop (mkF m 19 #[.val (.ref w_IN)] [(.int (0 : Int32))]))
  obtain ⟨fs, hr, hrun, hended, hW, hsame⟩ := X2.leave (v := some (.int (0 : Int32))) (fun h => by rw [Bd.returns] at h; cases h)
  exact ⟨_, _, retN X2 hx (t := .boolean) Bd.returns (by simp) (hb hby d2_19) hr, hrun, hended, _, _, rfl, ⟨rfl, N0, e2⟩, ⟨_, rfl⟩, hW, hsame.mono (by decide) (by decide)⟩
set_option maxRecDepth 65536 in
set_option maxHeartbeats 40000000 in
theorem rm0_c8 (l : Launch) (Z : State) (a0 : Array Value) (hw : ∀ d ∈ tables_1, d.before a0 Z = true) (ws : List Jvm.Cond) (w_EQUAL w_IS_TRUE w_IS_FALSE w_GREATER_THAN_OR_EQUAL w_IS_NULL w_IS_NOT_NULL w_STARTING_WITH w_NOT_BETWEEN w_GREATER_THAN w_IN w_NOT_EQUAL w_NOT_IN w_ENDING_WITH w_BETWEEN w_NOT_CONTAINING w_CONTAINING w_LIKE w_LESS_THAN_OR_EQUAL w_LESS_THAN w_NOT_LIKE : Addr) (p0 : Int32) (h0 : Heap) (n0 : Nat) (PN : own_Pins Z h0 w_EQUAL w_IS_TRUE w_IS_FALSE w_GREATER_THAN_OR_EQUAL w_IS_NULL w_IS_NOT_NULL w_STARTING_WITH w_NOT_BETWEEN w_GREATER_THAN w_IN w_NOT_EQUAL w_NOT_IN w_ENDING_WITH w_BETWEEN w_NOT_CONTAINING w_CONTAINING w_LIKE w_LESS_THAN_OR_EQUAL w_LESS_THAN w_NOT_LIKE) (q0 : ((p0 &&& (2147483647 : Int32)) % (20 : Int32)) = (8 : Int32)) :
    MetFree l x (head1 (Jvm.Cond.code x code maxLocals ret :: ws) room_1) (fun a U => a = #[(.int p0)] ∧ Z.Warmed39 U.vm ∧ U.heap = h0) (fun _ _ _ _ _ => True) (fun _ U o U' => ∃ v L, o = .returned v ∧ own_Q h0 n0 (some (.int (1 : Int32))) v U'.heap L ∧ FrameEnd U o U' L room_1.cells room_1.slots) := by
  have E_IN : Exa Z h0 w_IN "com/example/rootward/rootward/jdbc/Condition$Operator" := PN.2.2.2.2.2.2.2.2.2.2.2.2.2.2.2.2.2.2.2.1
  refine MetFree.of_bodySF (plainFor_of_name pn_com_example_rootward_rootward_jdbc_OperatorTestsTruthPinLaw) hisR ?_
  intro p e s m args below meth c s₁ Bd hml0 hP hK
  obtain ⟨rfl, hZ, hh⟩ := hP
  have hx := Bd.exec
  have hby := Bd.bytes
  have hml : c.maxLocals = 5 := hml0
  have hown : s.vm.findClass "com/example/rootward/rootward/jdbc/OperatorTestsTruthPinLaw" = some m.cls := findClass_of_methodNamed Bd.named
  have X0 : Stand p l e room_1 s m #[(.int p0)] below meth c s₁ [] 0 0 := Stand.of_body Bd
  have e0 : s₁.heap = h0 := by rw [← hh, Bd.state]; rfl
  have N0 := Fr.nil n0
  refine (?_ : own_Fin p e below _ _)
  refine own_st (fun t k => castTop (ef_0_I m p0) k) ?_
  show own_Fin p e below _ (s₁.setTop (mkF m 0 #[.val (.int p0), .unset, .unset, .unset, .unset] []))
  refine own_st (fun t k => XS.iloadN X0.here hx rfl (hb hby at_0) rfl k) ?_
  show own_Fin p e below _ (s₁.setTop (mkF m 1 #[.val (.int p0), .unset, .unset, .unset, .unset] [(.int p0)]))
  refine own_st (fun t k => X0.ldcI hx hown (mvT hZ (hw _ (List.mem_of_getElem? (i := 0) rfl))) rfl (hb hby at_1) k) ?_
  show own_Fin p e below _ (s₁.setTop (mkF m 3 #[.val (.int p0), .unset, .unset, .unset, .unset] [(.int (2147483647 : Int32)), (.int p0)]))
  refine own_st (fun t k => XS.iand X0.here hx rfl (hb hby at_3) rfl k) ?_
  show own_Fin p e below _ (s₁.setTop (mkF m 4 #[.val (.int p0), .unset, .unset, .unset, .unset] [(.int (p0 &&& (2147483647 : Int32)))]))
  refine own_st (fun t k => XS.bipush X0.here hx rfl (hb hby at_4) k) ?_
  show own_Fin p e below _ (s₁.setTop (mkF m 6 #[.val (.int p0), .unset, .unset, .unset, .unset] [(.int (20 : Int32)), (.int (p0 &&& (2147483647 : Int32)))]))
  refine own_st (fun t k => iremM X0 hx rfl (hb hby at_6) rfl (by decide) k) ?_
  show own_Fin p e below _ (s₁.setTop (mkF m 7 #[.val (.int p0), .unset, .unset, .unset, .unset] [(.int ((p0 &&& (2147483647 : Int32)) % (20 : Int32)))]))
  rw [q0]
  show own_Fin p e below _ (s₁.setTop (mkF m 7 #[.val (.int p0), .unset, .unset, .unset, .unset] [(.int (8 : Int32))]))
  refine own_st (fun t k => XS.istoreN X0.here hx rfl (hb hby at_7) rfl (l' := #[.val (.int p0), .val (.int (8 : Int32)), .unset, .unset, .unset]) rfl k) ?_
  show own_Fin p e below _ (s₁.setTop (mkF m 8 #[.val (.int p0), .val (.int (8 : Int32)), .unset, .unset, .unset] []))
  refine own_st (fun t k => XS.iloadN X0.here hx rfl (hb hby at_8) rfl k) ?_
  show own_Fin p e below _ (s₁.setTop (mkF m 9 #[.val (.int p0), .val (.int (8 : Int32)), .unset, .unset, .unset] [(.int (8 : Int32))]))
  obtain ⟨_, _, ⟨T1, L1, k1, n1⟩, -, X1, ⟨Lc1, hQ1, l1, y1, z1⟩, st1⟩ := Jvm.LawKit.callS X0 hx (y := (⟨"com/example/rootward/rootward/jdbc/OperatorTestsTruthPinLaw", "pick", "(I)Lcom/example/rootward/rootward/jdbc/Condition$Operator;"⟩ : MethodName)) hown (mvT hZ (hw _ (List.mem_of_getElem? (i := 1) rfl))) (mvT hZ (hw _ (List.mem_of_getElem? (i := 2) rfl))) (mvT hZ (hw _ (List.mem_of_getElem? (i := 3) rfl))) (mvT hZ (hw _ (List.mem_of_getElem? (i := 4) rfl))) (by decide) (backOf (W := 0) (rm1_8 l Z a0 hw [] w_EQUAL w_IS_TRUE w_IS_FALSE w_GREATER_THAN_OR_EQUAL w_IS_NULL w_IS_NOT_NULL w_STARTING_WITH w_NOT_BETWEEN w_GREATER_THAN w_IN w_NOT_EQUAL w_NOT_IN w_ENDING_WITH w_BETWEEN w_NOT_CONTAINING w_CONTAINING w_LIKE w_LESS_THAN_OR_EQUAL w_LESS_THAN w_NOT_LIKE h0 n0 PN) hZ (hw _ (List.mem_of_getElem? (i := 4) rfl)) (hw _ (List.mem_of_getElem? (i := 3) rfl)) (by decide) (by decide)) (g := (mkF m 9 #[.val (.int p0), .val (.int (8 : Int32)), .unset, .unset, .unset] [(.int (8 : Int32))])) rfl (by rw [hml]; rfl) (argsL := [(.int (8 : Int32))]) (rest := []) (lenOf pd__I_Lcom_example_rootward_rootward_jdbc_Condition_Operator_ rfl) rfl (by show 2 * 0 + _ ≤ _; exact Nat.le_of_eq rfl) (hb hby at_9) (fun _ _ => ⟨rfl, e0, (by decide : 0 + 0 ≤ _), (by decide : 0 + 0 ≤ _)⟩)
  dsimp only [Pt.U, Pt.locs, Pt.cells, Pt.slots] at X1 l1 y1 z1 st1 hQ1
  subst l1 y1 z1
  obtain ⟨rfl, N1q, e1⟩ := hQ1
  have N1 := Fr.app N0 N1q
  refine own_st st1 ?_
  show own_Fin p e below _ (T1.setTop (mkF m 12 #[.val (.int p0), .val (.int (8 : Int32)), .unset, .unset, .unset] [(.ref w_IN)]))
  refine own_st (fun t k => XS.astoreN X1.here hx rfl (hb hby at_12) rfl rfl (l' := #[.val (.int p0), .val (.int (8 : Int32)), .val (.ref w_IN), .unset, .unset]) rfl k) ?_
  show own_Fin p e below _ (T1.setTop (mkF m 13 #[.val (.int p0), .val (.int (8 : Int32)), .val (.ref w_IN), .unset, .unset] []))
  refine own_st (fun t k => XS.iloadN X1.here hx rfl (hb hby at_13) rfl k) ?_
  show own_Fin p e below _ (T1.setTop (mkF m 14 #[.val (.int p0), .val (.int (8 : Int32)), .val (.ref w_IN), .unset, .unset] [(.int (8 : Int32))]))
  refine own_st (fun t k => XS.bipush X1.here hx rfl (hb hby at_14) k) ?_
  show own_Fin p e below _ (T1.setTop (mkF m 16 #[.val (.int p0), .val (.int (8 : Int32)), .val (.ref w_IN), .unset, .unset] [(.int (18 : Int32)), (.int (8 : Int32))]))
  refine own_st (fun t k => XS.icmpNo X1.here hx rfl (hb hby at_16) rfl (by decide) k) ?_
  show own_Fin p e below _ (T1.setTop (mkF m 19 #[.val (.int p0), .val (.int (8 : Int32)), .val (.ref w_IN), .unset, .unset] []))
  refine own_st (fun t k => XS.iloadN X1.here hx rfl (hb hby at_19) rfl k) ?_
  show own_Fin p e below _ (T1.setTop (mkF m 20 #[.val (.int p0), .val (.int (8 : Int32)), .val (.ref w_IN), .unset, .unset] [(.int (8 : Int32))]))
  refine own_st (fun t k => XS.bipush X1.here hx rfl (hb hby at_20) k) ?_
  show own_Fin p e below _ (T1.setTop (mkF m 22 #[.val (.int p0), .val (.int (8 : Int32)), .val (.ref w_IN), .unset, .unset] [(.int (19 : Int32)), (.int (8 : Int32))]))
  refine own_st (fun t k => XS.icmpYes X1.here hx rfl (pc0 := 22) (pc' := 29) rfl (hb hby at_22) rfl (by decide) (by decide) (by decide) k) ?_
  show own_Fin p e below _ (T1.setTop (mkF m 29 #[.val (.int p0), .val (.int (8 : Int32)), .val (.ref w_IN), .unset, .unset] []))
  refine own_st (fun t k => XS.iconst X1.here hx rfl (hb hby at_29) k) ?_
  show own_Fin p e below _ (T1.setTop (mkF m 30 #[.val (.int p0), .val (.int (8 : Int32)), .val (.ref w_IN), .unset, .unset] [(.int (0 : Int32))]))
  refine own_st (fun t k => XS.istoreN X1.here hx rfl (hb hby at_30) rfl (l' := #[.val (.int p0), .val (.int (8 : Int32)), .val (.ref w_IN), .val (.int (0 : Int32)), .unset]) rfl k) ?_
  show own_Fin p e below _ (T1.setTop (mkF m 31 #[.val (.int p0), .val (.int (8 : Int32)), .val (.ref w_IN), .val (.int (0 : Int32)), .unset] []))
  refine own_st (fun t k => XS.aloadN X1.here hx rfl (hb hby at_31) rfl rfl k) ?_
  show own_Fin p e below _ (T1.setTop (mkF m 32 #[.val (.int p0), .val (.int (8 : Int32)), .val (.ref w_IN), .val (.int (0 : Int32)), .unset] [(.ref w_IN)]))
  obtain ⟨cq2, kq2, q2a, q2b, q2c⟩ := isOf hZ e1 E_IN
  obtain ⟨_, _, ⟨T2, L2, k2, n2⟩, -, X2, ⟨Lc2, hQ2, l2, y2, z2⟩, st2⟩ := X1.virtualBack hx (y := (⟨"com/example/rootward/rootward/jdbc/Condition$Operator", "testsTruth", "()Z"⟩ : MethodName)) (z := (⟨"com/example/rootward/rootward/jdbc/Condition$Operator", "testsTruth", "()Z"⟩ : MethodName)) hown (mvT hZ (hw _ (List.mem_of_getElem? (i := 8) rfl))) (mvT hZ (hw _ (List.mem_of_getElem? (i := 9) rfl))) (notFace_of_selects (args := #[]) (mvT hZ (hw _ (List.mem_of_getElem? (i := 11) rfl)))) (mvT hZ (hw _ (List.mem_of_getElem? (i := 11) rfl))) (mvT hZ (hw _ (List.mem_of_getElem? (i := 10) rfl))) (by decide) (backOf (W := 0) (rm2_w_IN l Z a0 hw [] w_EQUAL w_IS_TRUE w_IS_FALSE w_GREATER_THAN_OR_EQUAL w_IS_NULL w_IS_NOT_NULL w_STARTING_WITH w_NOT_BETWEEN w_GREATER_THAN w_IN w_NOT_EQUAL w_NOT_IN w_ENDING_WITH w_BETWEEN w_NOT_CONTAINING w_CONTAINING w_LIKE w_LESS_THAN_OR_EQUAL w_LESS_THAN w_NOT_LIKE h0 n0 PN) hZ (hw _ (List.mem_of_getElem? (i := 12) rfl)) (hw _ (List.mem_of_getElem? (i := 6) rfl)) (by decide) (by decide)) q2a q2c (g := (mkF m 32 #[.val (.int p0), .val (.int (8 : Int32)), .val (.ref w_IN), .val (.int (0 : Int32)), .unset] [(.ref w_IN)])) rfl (by rw [hml]; rfl) (Steps.refl _) (argsL := []) (rest := []) (lenOf pd___Z rfl) rfl (by show 2 * 0 + _ ≤ _; exact Nat.le_of_eq rfl) (hb hby at_32) (fun _ _ => ⟨rfl, e1, (by decide : 0 + 0 ≤ _), (by decide : 0 + 0 ≤ _)⟩)
  dsimp only [Pt.U, Pt.locs, Pt.cells, Pt.slots] at X2 l2 y2 z2 st2 hQ2
  subst l2 y2 z2
  obtain ⟨rfl, N2q, e2⟩ := hQ2
  have N2 := Fr.app N1 N2q
  refine own_tr st2 ?_
  show own_Fin p e below _ (T2.setTop (mkF m 35 #[.val (.int p0), .val (.int (8 : Int32)), .val (.ref w_IN), .val (.int (0 : Int32)), .unset] [(.int (0 : Int32))]))
  refine own_st (fun t k => XS.istore X2.here hx rfl (hb hby at_35) rfl (l' := #[.val (.int p0), .val (.int (8 : Int32)), .val (.ref w_IN), .val (.int (0 : Int32)), .val (.int (0 : Int32))]) rfl k) ?_
  show own_Fin p e below _ (T2.setTop (mkF m 37 #[.val (.int p0), .val (.int (8 : Int32)), .val (.ref w_IN), .val (.int (0 : Int32)), .val (.int (0 : Int32))] []))
  refine own_st (fun t k => XS.iload X2.here hx rfl (hb hby at_37) rfl k) ?_
  show own_Fin p e below _ (T2.setTop (mkF m 39 #[.val (.int p0), .val (.int (8 : Int32)), .val (.ref w_IN), .val (.int (0 : Int32)), .val (.int (0 : Int32))] [(.int (0 : Int32))]))
  refine own_st (fun t k => XS.iloadN X2.here hx rfl (hb hby at_39) rfl k) ?_
  show own_Fin p e below _ (T2.setTop (mkF m 40 #[.val (.int p0), .val (.int (8 : Int32)), .val (.ref w_IN), .val (.int (0 : Int32)), .val (.int (0 : Int32))] [(.int (0 : Int32)), (.int (0 : Int32))]))
  refine own_st (fun t k => XS.icmpYes X2.here hx rfl (pc0 := 40) (pc' := 45) rfl (hb hby at_40) rfl (by decide) (by decide) (by decide) k) ?_
  show own_Fin p e below _ (T2.setTop (mkF m 45 #[.val (.int p0), .val (.int (8 : Int32)), .val (.ref w_IN), .val (.int (0 : Int32)), .val (.int (0 : Int32))] []))
  refine own_st (fun t k => XS.iload X2.here hx rfl (hb hby at_45) rfl k) ?_
  show own_Fin p e below _ (T2.setTop (mkF m 47 #[.val (.int p0), .val (.int (8 : Int32)), .val (.ref w_IN), .val (.int (0 : Int32)), .val (.int (0 : Int32))] [(.int (0 : Int32))]))
  refine own_st (fun t k => XS.ifYes X2.here hx rfl (pc0 := 47) (pc' := 73) rfl (hb hby at_47) rfl (by decide) (by decide) (by decide) k) ?_
  show own_Fin p e below _ (T2.setTop (mkF m 73 #[.val (.int p0), .val (.int (8 : Int32)), .val (.ref w_IN), .val (.int (0 : Int32)), .val (.int (0 : Int32))] []))
  refine own_st (fun t k => XS.iconst X2.here hx rfl (hb hby at_73) k) ?_
  show own_Fin p e below _ (T2.setTop (mkF m 74 #[.val (.int p0), .val (.int (8 : Int32)), .val (.ref w_IN), .val (.int (0 : Int32)), .val (.int (0 : Int32))] [(.int (1 : Int32))]))
  obtain ⟨fs, hr, hrun, hended, hW, hsame⟩ := X2.leave (v := some (.int (1 : Int32))) (fun h => by rw [Bd.returns] at h; cases h)
  exact ⟨_, _, retN X2 hx (t := .boolean) Bd.returns (by simp) (hb hby at_74) hr, hrun, hended, _, _, rfl, ⟨rfl, N2, e2⟩, ⟨_, rfl⟩, hW, hsame.mono (by decide) (by decide)⟩
theorem d1_128 : decode method_2_code 128 = .ok (.getstatic 37, 3) := by decide +kernel
theorem d1_131 : decode method_2_code 131 = .ok (.areturn, 1) := by decide +kernel
set_option maxRecDepth 65536 in
set_option maxHeartbeats 40000000 in
theorem rm1_9 (l : Launch) (Z : State) (a0 : Array Value) (hw : ∀ d ∈ tables_1, d.before a0 Z = true) (ws : List Jvm.Cond) (w_EQUAL w_IS_TRUE w_IS_FALSE w_GREATER_THAN_OR_EQUAL w_IS_NULL w_IS_NOT_NULL w_STARTING_WITH w_NOT_BETWEEN w_GREATER_THAN w_IN w_NOT_EQUAL w_NOT_IN w_ENDING_WITH w_BETWEEN w_NOT_CONTAINING w_CONTAINING w_LIKE w_LESS_THAN_OR_EQUAL w_LESS_THAN w_NOT_LIKE : Addr) (h0 : Heap) (n0 : Nat) (PN : own_Pins Z h0 w_EQUAL w_IS_TRUE w_IS_FALSE w_GREATER_THAN_OR_EQUAL w_IS_NULL w_IS_NOT_NULL w_STARTING_WITH w_NOT_BETWEEN w_GREATER_THAN w_IN w_NOT_EQUAL w_NOT_IN w_ENDING_WITH w_BETWEEN w_NOT_CONTAINING w_CONTAINING w_LIKE w_LESS_THAN_OR_EQUAL w_LESS_THAN w_NOT_LIKE) :
    MetFree l (⟨"com/example/rootward/rootward/jdbc/OperatorTestsTruthPinLaw", "pick", "(I)Lcom/example/rootward/rootward/jdbc/Condition$Operator;"⟩ : MethodName) (head1 (Jvm.Cond.code (⟨"com/example/rootward/rootward/jdbc/OperatorTestsTruthPinLaw", "pick", "(I)Lcom/example/rootward/rootward/jdbc/Condition$Operator;"⟩ : MethodName) method_2_code 1 (some (.object "com/example/rootward/rootward/jdbc/Condition$Operator")) :: ws) ({ frames := 0, cells := 0, slots := 0, locals := 0 } : Room)) (fun a U => a = #[(.int (9 : Int32))] ∧ Z.Warmed39 U.vm ∧ U.heap = h0) (fun _ _ _ _ _ => True) (fun _ U o U' => ∃ v L, o = .returned v ∧ own_Q h0 n0 (some (.ref w_NOT_IN)) v U'.heap L ∧ FrameEnd U o U' L ({ frames := 0, cells := 0, slots := 0, locals := 0 } : Room).cells ({ frames := 0, cells := 0, slots := 0, locals := 0 } : Room).slots) := by
  have S_NOT_IN : Sta Z h0 "com/example/rootward/rootward/jdbc/Condition$Operator" "NOT_IN" "Lcom/example/rootward/rootward/jdbc/Condition$Operator;" (.ref w_NOT_IN) := PN.2.2.2.2.2.2.2.2.2.2.2.2.2.2.2.2.2.2.2.2.2.2.1
  refine MetFree.of_bodySF (plainFor_of_name pn_com_example_rootward_rootward_jdbc_OperatorTestsTruthPinLaw) hisR ?_
  intro p e s m args below meth c s₁ Bd hml0 hP hK
  obtain ⟨rfl, hZ, hh⟩ := hP
  have hx := Bd.exec
  have hby := Bd.bytes
  have hml : c.maxLocals = 1 := hml0
  have hown : s.vm.findClass "com/example/rootward/rootward/jdbc/OperatorTestsTruthPinLaw" = some m.cls := findClass_of_methodNamed Bd.named
  have X0 : Stand p l e ({ frames := 0, cells := 0, slots := 0, locals := 0 } : Room) s m #[(.int (9 : Int32))] below meth c s₁ [] 0 0 := Stand.of_body Bd
  have e0 : s₁.heap = h0 := by rw [← hh, Bd.state]; rfl
  have N0 := Fr.nil n0
  refine (?_ : own_Fin p e below _ _)
  refine own_st (fun t k => castTop (ef_1_I m (9 : Int32)) k) ?_
  show own_Fin p e below _ (s₁.setTop (mkF m 0 #[.val (.int (9 : Int32))] []))
  refine own_st (fun t k => XS.iloadN X0.here hx rfl (hb hby d1_0) rfl k) ?_
  show own_Fin p e below _ (s₁.setTop (mkF m 1 #[.val (.int (9 : Int32))] [(.int (9 : Int32))]))
  refine own_st (fun t k => XS.tswIn X0.here hx rfl (pc0 := 1) (pc' := 128) rfl (hb hby d1_1) rfl (by decide) (o := 127) (by decide) (by decide) (by decide) k) ?_
  show own_Fin p e below _ (s₁.setTop (mkF m 128 #[.val (.int (9 : Int32))] []))
  obtain ⟨T1, X1, e1, st1⟩ := getS2 X0 hx hZ hown (host := "") (Or.inl (hw _ (List.mem_of_getElem? (i := 70) rfl))) Via.refl e0 S_NOT_IN (g := (mkF m 128 #[.val (.int (9 : Int32))] [])) rfl (hb hby d1_128)
  refine own_st st1 ?_
  show own_Fin p e below _ (T1.setTop (mkF m 131 #[.val (.int (9 : Int32))] [(.ref w_NOT_IN)]))
  obtain ⟨fs, hr, hrun, hended, hW, hsame⟩ := X1.leave (v := some (.ref w_NOT_IN)) (fun h => by rw [Bd.returns] at h; cases h)
  exact ⟨_, _, retOut X1 hx (t := (.object "com/example/rootward/rootward/jdbc/Condition$Operator")) Bd.returns rfl (Or.inr (Or.inr (Or.inr (Or.inr ⟨rfl, rfl, rfl⟩)))) (hb hby d1_131) hr, hrun, hended, _, _, rfl, ⟨rfl, N0, e1⟩, ⟨_, rfl⟩, hW, hsame.mono (by decide) (by decide)⟩
set_option maxRecDepth 65536 in
set_option maxHeartbeats 40000000 in
theorem rm2_w_NOT_IN (l : Launch) (Z : State) (a0 : Array Value) (hw : ∀ d ∈ tables_1, d.before a0 Z = true) (ws : List Jvm.Cond) (w_EQUAL w_IS_TRUE w_IS_FALSE w_GREATER_THAN_OR_EQUAL w_IS_NULL w_IS_NOT_NULL w_STARTING_WITH w_NOT_BETWEEN w_GREATER_THAN w_IN w_NOT_EQUAL w_NOT_IN w_ENDING_WITH w_BETWEEN w_NOT_CONTAINING w_CONTAINING w_LIKE w_LESS_THAN_OR_EQUAL w_LESS_THAN w_NOT_LIKE : Addr) (h0 : Heap) (n0 : Nat) (PN : own_Pins Z h0 w_EQUAL w_IS_TRUE w_IS_FALSE w_GREATER_THAN_OR_EQUAL w_IS_NULL w_IS_NOT_NULL w_STARTING_WITH w_NOT_BETWEEN w_GREATER_THAN w_IN w_NOT_EQUAL w_NOT_IN w_ENDING_WITH w_BETWEEN w_NOT_CONTAINING w_CONTAINING w_LIKE w_LESS_THAN_OR_EQUAL w_LESS_THAN w_NOT_LIKE) :
    MetFree l (⟨"com/example/rootward/rootward/jdbc/Condition$Operator", "testsTruth", "()Z"⟩ : MethodName) (head1 (Jvm.Cond.code (⟨"com/example/rootward/rootward/jdbc/Condition$Operator", "testsTruth", "()Z"⟩ : MethodName) prog_32_method_8_code 1 (some .boolean) :: ws) ({ frames := 0, cells := 0, slots := 0, locals := 0 } : Room)) (fun a U => a = #[(.ref w_NOT_IN)] ∧ Z.Warmed39 U.vm ∧ U.heap = h0) (fun _ _ _ _ _ => True) (fun _ U o U' => ∃ v L, o = .returned v ∧ own_Q h0 n0 (some (.int (0 : Int32))) v U'.heap L ∧ FrameEnd U o U' L ({ frames := 0, cells := 0, slots := 0, locals := 0 } : Room).cells ({ frames := 0, cells := 0, slots := 0, locals := 0 } : Room).slots) := by
  have S_IS_TRUE : Sta Z h0 "com/example/rootward/rootward/jdbc/Condition$Operator" "IS_TRUE" "Lcom/example/rootward/rootward/jdbc/Condition$Operator;" (.ref w_IS_TRUE) := PN.2.2.1
  have S_IS_FALSE : Sta Z h0 "com/example/rootward/rootward/jdbc/Condition$Operator" "IS_FALSE" "Lcom/example/rootward/rootward/jdbc/Condition$Operator;" (.ref w_IS_FALSE) := PN.2.2.2.2.1
  have F_IS_TRUE_ordinal : Fld Z h0 w_IS_TRUE "java/lang/Enum" "ordinal" "I" (.int 18) := PN.2.2.2.2.2.2.2.2.2.2.2.2.2.2.2.2.2.2.2.2.2.2.2.2.2.2.2.2.2.2.2.2.2.2.2.2.2.2.2.2.2.1
  have F_IS_FALSE_ordinal : Fld Z h0 w_IS_FALSE "java/lang/Enum" "ordinal" "I" (.int 19) := PN.2.2.2.2.2.2.2.2.2.2.2.2.2.2.2.2.2.2.2.2.2.2.2.2.2.2.2.2.2.2.2.2.2.2.2.2.2.2.2.2.2.2.1
  have F_NOT_IN_ordinal : Fld Z h0 w_NOT_IN "java/lang/Enum" "ordinal" "I" (.int 9) := PN.2.2.2.2.2.2.2.2.2.2.2.2.2.2.2.2.2.2.2.2.2.2.2.2.2.2.2.2.2.2.2.2.2.2.2.2.2.2.2.2.2.2.2.2.2.2.2.2.2.2.2.2.2.1
  refine MetFree.of_bodySF (plainFor_of_name pn_com_example_rootward_rootward_jdbc_Condition_Operator) hisR ?_
  intro p e s m args below meth c s₁ Bd hml0 hP hK
  obtain ⟨rfl, hZ, hh⟩ := hP
  have hx := Bd.exec
  have hby := Bd.bytes
  have hml : c.maxLocals = 1 := hml0
  have hown : s.vm.findClass "com/example/rootward/rootward/jdbc/Condition$Operator" = some m.cls := findClass_of_methodNamed Bd.named
  have X0 : Stand p l e ({ frames := 0, cells := 0, slots := 0, locals := 0 } : Room) s m #[(.ref w_NOT_IN)] below meth c s₁ [] 0 0 := Stand.of_body Bd
  have e0 : s₁.heap = h0 := by rw [← hh, Bd.state]; rfl
  have N0 := Fr.nil n0
  refine (?_ : own_Fin p e below _ _)
  refine own_st (fun t k => castTop (ef_2_R m w_NOT_IN) k) ?_
  show own_Fin p e below _ (s₁.setTop (mkF m 0 #[.val (.ref w_NOT_IN)] []))
  refine own_st (fun t k => XS.aloadN X0.here hx rfl (hb hby d2_0) rfl rfl k) ?_
  show own_Fin p e below _ (s₁.setTop (mkF m 1 #[.val (.ref w_NOT_IN)] [(.ref w_NOT_IN)]))
  obtain ⟨T1, X1, e1, st1⟩ := getS2 X0 hx hZ hown (host := "") (Or.inl (hw _ (List.mem_of_getElem? (i := 13) rfl))) Via.refl e0 S_IS_TRUE (g := (mkF m 1 #[.val (.ref w_NOT_IN)] [(.ref w_NOT_IN)])) rfl (hb hby d2_1)
  refine own_st st1 ?_
  show own_Fin p e below _ (T1.setTop (mkF m 4 #[.val (.ref w_NOT_IN)] [(.ref w_IS_TRUE), (.ref w_NOT_IN)]))
  refine own_st (fun t k => Jvm.RoadKit.acmp (g := (mkF m 4 #[.val (.ref w_NOT_IN)] [(.ref w_IS_TRUE), (.ref w_NOT_IN)])) X1 hx rfl rfl rfl (pc0 := 4) (pc' := 7) (same := false) rfl (hb hby d2_4) rfl (decide_eq_false fun q => (Fld.ne F_NOT_IN_ordinal F_IS_TRUE_ordinal (by simp)) (Value.ref.inj q)) (by decide) (by decide) k) ?_
  show own_Fin p e below _ (T1.setTop (mkF m 7 #[.val (.ref w_NOT_IN)] []))
  refine own_st (fun t k => XS.aloadN X1.here hx rfl (hb hby d2_7) rfl rfl k) ?_
  show own_Fin p e below _ (T1.setTop (mkF m 8 #[.val (.ref w_NOT_IN)] [(.ref w_NOT_IN)]))
  obtain ⟨T2, X2, e2, st2⟩ := getS2 X1 hx hZ hown (host := "") (Or.inl (hw _ (List.mem_of_getElem? (i := 15) rfl))) Via.refl e1 S_IS_FALSE (g := (mkF m 8 #[.val (.ref w_NOT_IN)] [(.ref w_NOT_IN)])) rfl (hb hby d2_8)
  refine own_st st2 ?_
  show own_Fin p e below _ (T2.setTop (mkF m 11 #[.val (.ref w_NOT_IN)] [(.ref w_IS_FALSE), (.ref w_NOT_IN)]))
  refine own_st (fun t k => Jvm.RoadKit.acmp (g := (mkF m 11 #[.val (.ref w_NOT_IN)] [(.ref w_IS_FALSE), (.ref w_NOT_IN)])) X2 hx rfl rfl rfl (pc0 := 11) (pc' := 18) (same := false) rfl (hb hby d2_11) rfl (decide_eq_false fun q => (Fld.ne F_NOT_IN_ordinal F_IS_FALSE_ordinal (by simp)) (Value.ref.inj q)) (by decide) (by decide) k) ?_
  show own_Fin p e below _ (T2.setTop (mkF m 18 #[.val (.ref w_NOT_IN)] []))
  refine own_st (fun t k => XS.iconst X2.here hx rfl (hb hby d2_18) k) ?_
  show own_Fin p e below _ (T2.setTop (mkF m 19 #[.val (.ref w_NOT_IN)] [(.int (0 : Int32))]))
  obtain ⟨fs, hr, hrun, hended, hW, hsame⟩ := X2.leave (v := some (.int (0 : Int32))) (fun h => by rw [Bd.returns] at h; cases h)
  exact ⟨_, _, retN X2 hx (t := .boolean) Bd.returns (by simp) (hb hby d2_19) hr, hrun, hended, _, _, rfl, ⟨rfl, N0, e2⟩, ⟨_, rfl⟩, hW, hsame.mono (by decide) (by decide)⟩
set_option maxRecDepth 65536 in
set_option maxHeartbeats 40000000 in
theorem rm0_c9 (l : Launch) (Z : State) (a0 : Array Value) (hw : ∀ d ∈ tables_1, d.before a0 Z = true) (ws : List Jvm.Cond) (w_EQUAL w_IS_TRUE w_IS_FALSE w_GREATER_THAN_OR_EQUAL w_IS_NULL w_IS_NOT_NULL w_STARTING_WITH w_NOT_BETWEEN w_GREATER_THAN w_IN w_NOT_EQUAL w_NOT_IN w_ENDING_WITH w_BETWEEN w_NOT_CONTAINING w_CONTAINING w_LIKE w_LESS_THAN_OR_EQUAL w_LESS_THAN w_NOT_LIKE : Addr) (p0 : Int32) (h0 : Heap) (n0 : Nat) (PN : own_Pins Z h0 w_EQUAL w_IS_TRUE w_IS_FALSE w_GREATER_THAN_OR_EQUAL w_IS_NULL w_IS_NOT_NULL w_STARTING_WITH w_NOT_BETWEEN w_GREATER_THAN w_IN w_NOT_EQUAL w_NOT_IN w_ENDING_WITH w_BETWEEN w_NOT_CONTAINING w_CONTAINING w_LIKE w_LESS_THAN_OR_EQUAL w_LESS_THAN w_NOT_LIKE) (q0 : ((p0 &&& (2147483647 : Int32)) % (20 : Int32)) = (9 : Int32)) :
    MetFree l x (head1 (Jvm.Cond.code x code maxLocals ret :: ws) room_1) (fun a U => a = #[(.int p0)] ∧ Z.Warmed39 U.vm ∧ U.heap = h0) (fun _ _ _ _ _ => True) (fun _ U o U' => ∃ v L, o = .returned v ∧ own_Q h0 n0 (some (.int (1 : Int32))) v U'.heap L ∧ FrameEnd U o U' L room_1.cells room_1.slots) := by
  have E_NOT_IN : Exa Z h0 w_NOT_IN "com/example/rootward/rootward/jdbc/Condition$Operator" := PN.2.2.2.2.2.2.2.2.2.2.2.2.2.2.2.2.2.2.2.2.2.2.2.1
  refine MetFree.of_bodySF (plainFor_of_name pn_com_example_rootward_rootward_jdbc_OperatorTestsTruthPinLaw) hisR ?_
  intro p e s m args below meth c s₁ Bd hml0 hP hK
  obtain ⟨rfl, hZ, hh⟩ := hP
  have hx := Bd.exec
  have hby := Bd.bytes
  have hml : c.maxLocals = 5 := hml0
  have hown : s.vm.findClass "com/example/rootward/rootward/jdbc/OperatorTestsTruthPinLaw" = some m.cls := findClass_of_methodNamed Bd.named
  have X0 : Stand p l e room_1 s m #[(.int p0)] below meth c s₁ [] 0 0 := Stand.of_body Bd
  have e0 : s₁.heap = h0 := by rw [← hh, Bd.state]; rfl
  have N0 := Fr.nil n0
  refine (?_ : own_Fin p e below _ _)
  refine own_st (fun t k => castTop (ef_0_I m p0) k) ?_
  show own_Fin p e below _ (s₁.setTop (mkF m 0 #[.val (.int p0), .unset, .unset, .unset, .unset] []))
  refine own_st (fun t k => XS.iloadN X0.here hx rfl (hb hby at_0) rfl k) ?_
  show own_Fin p e below _ (s₁.setTop (mkF m 1 #[.val (.int p0), .unset, .unset, .unset, .unset] [(.int p0)]))
  refine own_st (fun t k => X0.ldcI hx hown (mvT hZ (hw _ (List.mem_of_getElem? (i := 0) rfl))) rfl (hb hby at_1) k) ?_
  show own_Fin p e below _ (s₁.setTop (mkF m 3 #[.val (.int p0), .unset, .unset, .unset, .unset] [(.int (2147483647 : Int32)), (.int p0)]))
  refine own_st (fun t k => XS.iand X0.here hx rfl (hb hby at_3) rfl k) ?_
  show own_Fin p e below _ (s₁.setTop (mkF m 4 #[.val (.int p0), .unset, .unset, .unset, .unset] [(.int (p0 &&& (2147483647 : Int32)))]))
  refine own_st (fun t k => XS.bipush X0.here hx rfl (hb hby at_4) k) ?_
  show own_Fin p e below _ (s₁.setTop (mkF m 6 #[.val (.int p0), .unset, .unset, .unset, .unset] [(.int (20 : Int32)), (.int (p0 &&& (2147483647 : Int32)))]))
  refine own_st (fun t k => iremM X0 hx rfl (hb hby at_6) rfl (by decide) k) ?_
  show own_Fin p e below _ (s₁.setTop (mkF m 7 #[.val (.int p0), .unset, .unset, .unset, .unset] [(.int ((p0 &&& (2147483647 : Int32)) % (20 : Int32)))]))
  rw [q0]
  show own_Fin p e below _ (s₁.setTop (mkF m 7 #[.val (.int p0), .unset, .unset, .unset, .unset] [(.int (9 : Int32))]))
  refine own_st (fun t k => XS.istoreN X0.here hx rfl (hb hby at_7) rfl (l' := #[.val (.int p0), .val (.int (9 : Int32)), .unset, .unset, .unset]) rfl k) ?_
  show own_Fin p e below _ (s₁.setTop (mkF m 8 #[.val (.int p0), .val (.int (9 : Int32)), .unset, .unset, .unset] []))
  refine own_st (fun t k => XS.iloadN X0.here hx rfl (hb hby at_8) rfl k) ?_
  show own_Fin p e below _ (s₁.setTop (mkF m 9 #[.val (.int p0), .val (.int (9 : Int32)), .unset, .unset, .unset] [(.int (9 : Int32))]))
  obtain ⟨_, _, ⟨T1, L1, k1, n1⟩, -, X1, ⟨Lc1, hQ1, l1, y1, z1⟩, st1⟩ := Jvm.LawKit.callS X0 hx (y := (⟨"com/example/rootward/rootward/jdbc/OperatorTestsTruthPinLaw", "pick", "(I)Lcom/example/rootward/rootward/jdbc/Condition$Operator;"⟩ : MethodName)) hown (mvT hZ (hw _ (List.mem_of_getElem? (i := 1) rfl))) (mvT hZ (hw _ (List.mem_of_getElem? (i := 2) rfl))) (mvT hZ (hw _ (List.mem_of_getElem? (i := 3) rfl))) (mvT hZ (hw _ (List.mem_of_getElem? (i := 4) rfl))) (by decide) (backOf (W := 0) (rm1_9 l Z a0 hw [] w_EQUAL w_IS_TRUE w_IS_FALSE w_GREATER_THAN_OR_EQUAL w_IS_NULL w_IS_NOT_NULL w_STARTING_WITH w_NOT_BETWEEN w_GREATER_THAN w_IN w_NOT_EQUAL w_NOT_IN w_ENDING_WITH w_BETWEEN w_NOT_CONTAINING w_CONTAINING w_LIKE w_LESS_THAN_OR_EQUAL w_LESS_THAN w_NOT_LIKE h0 n0 PN) hZ (hw _ (List.mem_of_getElem? (i := 4) rfl)) (hw _ (List.mem_of_getElem? (i := 3) rfl)) (by decide) (by decide)) (g := (mkF m 9 #[.val (.int p0), .val (.int (9 : Int32)), .unset, .unset, .unset] [(.int (9 : Int32))])) rfl (by rw [hml]; rfl) (argsL := [(.int (9 : Int32))]) (rest := []) (lenOf pd__I_Lcom_example_rootward_rootward_jdbc_Condition_Operator_ rfl) rfl (by show 2 * 0 + _ ≤ _; exact Nat.le_of_eq rfl) (hb hby at_9) (fun _ _ => ⟨rfl, e0, (by decide : 0 + 0 ≤ _), (by decide : 0 + 0 ≤ _)⟩)
  dsimp only [Pt.U, Pt.locs, Pt.cells, Pt.slots] at X1 l1 y1 z1 st1 hQ1
  subst l1 y1 z1
  obtain ⟨rfl, N1q, e1⟩ := hQ1
  have N1 := Fr.app N0 N1q
  refine own_st st1 ?_
  show own_Fin p e below _ (T1.setTop (mkF m 12 #[.val (.int p0), .val (.int (9 : Int32)), .unset, .unset, .unset] [(.ref w_NOT_IN)]))
  refine own_st (fun t k => XS.astoreN X1.here hx rfl (hb hby at_12) rfl rfl (l' := #[.val (.int p0), .val (.int (9 : Int32)), .val (.ref w_NOT_IN), .unset, .unset]) rfl k) ?_
  show own_Fin p e below _ (T1.setTop (mkF m 13 #[.val (.int p0), .val (.int (9 : Int32)), .val (.ref w_NOT_IN), .unset, .unset] []))
  refine own_st (fun t k => XS.iloadN X1.here hx rfl (hb hby at_13) rfl k) ?_
  show own_Fin p e below _ (T1.setTop (mkF m 14 #[.val (.int p0), .val (.int (9 : Int32)), .val (.ref w_NOT_IN), .unset, .unset] [(.int (9 : Int32))]))
  refine own_st (fun t k => XS.bipush X1.here hx rfl (hb hby at_14) k) ?_
  show own_Fin p e below _ (T1.setTop (mkF m 16 #[.val (.int p0), .val (.int (9 : Int32)), .val (.ref w_NOT_IN), .unset, .unset] [(.int (18 : Int32)), (.int (9 : Int32))]))
  refine own_st (fun t k => XS.icmpNo X1.here hx rfl (hb hby at_16) rfl (by decide) k) ?_
  show own_Fin p e below _ (T1.setTop (mkF m 19 #[.val (.int p0), .val (.int (9 : Int32)), .val (.ref w_NOT_IN), .unset, .unset] []))
  refine own_st (fun t k => XS.iloadN X1.here hx rfl (hb hby at_19) rfl k) ?_
  show own_Fin p e below _ (T1.setTop (mkF m 20 #[.val (.int p0), .val (.int (9 : Int32)), .val (.ref w_NOT_IN), .unset, .unset] [(.int (9 : Int32))]))
  refine own_st (fun t k => XS.bipush X1.here hx rfl (hb hby at_20) k) ?_
  show own_Fin p e below _ (T1.setTop (mkF m 22 #[.val (.int p0), .val (.int (9 : Int32)), .val (.ref w_NOT_IN), .unset, .unset] [(.int (19 : Int32)), (.int (9 : Int32))]))
  refine own_st (fun t k => XS.icmpYes X1.here hx rfl (pc0 := 22) (pc' := 29) rfl (hb hby at_22) rfl (by decide) (by decide) (by decide) k) ?_
  show own_Fin p e below _ (T1.setTop (mkF m 29 #[.val (.int p0), .val (.int (9 : Int32)), .val (.ref w_NOT_IN), .unset, .unset] []))
  refine own_st (fun t k => XS.iconst X1.here hx rfl (hb hby at_29) k) ?_
  show own_Fin p e below _ (T1.setTop (mkF m 30 #[.val (.int p0), .val (.int (9 : Int32)), .val (.ref w_NOT_IN), .unset, .unset] [(.int (0 : Int32))]))
  refine own_st (fun t k => XS.istoreN X1.here hx rfl (hb hby at_30) rfl (l' := #[.val (.int p0), .val (.int (9 : Int32)), .val (.ref w_NOT_IN), .val (.int (0 : Int32)), .unset]) rfl k) ?_
  show own_Fin p e below _ (T1.setTop (mkF m 31 #[.val (.int p0), .val (.int (9 : Int32)), .val (.ref w_NOT_IN), .val (.int (0 : Int32)), .unset] []))
  refine own_st (fun t k => XS.aloadN X1.here hx rfl (hb hby at_31) rfl rfl k) ?_
  show own_Fin p e below _ (T1.setTop (mkF m 32 #[.val (.int p0), .val (.int (9 : Int32)), .val (.ref w_NOT_IN), .val (.int (0 : Int32)), .unset] [(.ref w_NOT_IN)]))
  obtain ⟨cq2, kq2, q2a, q2b, q2c⟩ := isOf hZ e1 E_NOT_IN
  obtain ⟨_, _, ⟨T2, L2, k2, n2⟩, -, X2, ⟨Lc2, hQ2, l2, y2, z2⟩, st2⟩ := X1.virtualBack hx (y := (⟨"com/example/rootward/rootward/jdbc/Condition$Operator", "testsTruth", "()Z"⟩ : MethodName)) (z := (⟨"com/example/rootward/rootward/jdbc/Condition$Operator", "testsTruth", "()Z"⟩ : MethodName)) hown (mvT hZ (hw _ (List.mem_of_getElem? (i := 8) rfl))) (mvT hZ (hw _ (List.mem_of_getElem? (i := 9) rfl))) (notFace_of_selects (args := #[]) (mvT hZ (hw _ (List.mem_of_getElem? (i := 11) rfl)))) (mvT hZ (hw _ (List.mem_of_getElem? (i := 11) rfl))) (mvT hZ (hw _ (List.mem_of_getElem? (i := 10) rfl))) (by decide) (backOf (W := 0) (rm2_w_NOT_IN l Z a0 hw [] w_EQUAL w_IS_TRUE w_IS_FALSE w_GREATER_THAN_OR_EQUAL w_IS_NULL w_IS_NOT_NULL w_STARTING_WITH w_NOT_BETWEEN w_GREATER_THAN w_IN w_NOT_EQUAL w_NOT_IN w_ENDING_WITH w_BETWEEN w_NOT_CONTAINING w_CONTAINING w_LIKE w_LESS_THAN_OR_EQUAL w_LESS_THAN w_NOT_LIKE h0 n0 PN) hZ (hw _ (List.mem_of_getElem? (i := 12) rfl)) (hw _ (List.mem_of_getElem? (i := 6) rfl)) (by decide) (by decide)) q2a q2c (g := (mkF m 32 #[.val (.int p0), .val (.int (9 : Int32)), .val (.ref w_NOT_IN), .val (.int (0 : Int32)), .unset] [(.ref w_NOT_IN)])) rfl (by rw [hml]; rfl) (Steps.refl _) (argsL := []) (rest := []) (lenOf pd___Z rfl) rfl (by show 2 * 0 + _ ≤ _; exact Nat.le_of_eq rfl) (hb hby at_32) (fun _ _ => ⟨rfl, e1, (by decide : 0 + 0 ≤ _), (by decide : 0 + 0 ≤ _)⟩)
  dsimp only [Pt.U, Pt.locs, Pt.cells, Pt.slots] at X2 l2 y2 z2 st2 hQ2
  subst l2 y2 z2
  obtain ⟨rfl, N2q, e2⟩ := hQ2
  have N2 := Fr.app N1 N2q
  refine own_tr st2 ?_
  show own_Fin p e below _ (T2.setTop (mkF m 35 #[.val (.int p0), .val (.int (9 : Int32)), .val (.ref w_NOT_IN), .val (.int (0 : Int32)), .unset] [(.int (0 : Int32))]))
  refine own_st (fun t k => XS.istore X2.here hx rfl (hb hby at_35) rfl (l' := #[.val (.int p0), .val (.int (9 : Int32)), .val (.ref w_NOT_IN), .val (.int (0 : Int32)), .val (.int (0 : Int32))]) rfl k) ?_
  show own_Fin p e below _ (T2.setTop (mkF m 37 #[.val (.int p0), .val (.int (9 : Int32)), .val (.ref w_NOT_IN), .val (.int (0 : Int32)), .val (.int (0 : Int32))] []))
  refine own_st (fun t k => XS.iload X2.here hx rfl (hb hby at_37) rfl k) ?_
  show own_Fin p e below _ (T2.setTop (mkF m 39 #[.val (.int p0), .val (.int (9 : Int32)), .val (.ref w_NOT_IN), .val (.int (0 : Int32)), .val (.int (0 : Int32))] [(.int (0 : Int32))]))
  refine own_st (fun t k => XS.iloadN X2.here hx rfl (hb hby at_39) rfl k) ?_
  show own_Fin p e below _ (T2.setTop (mkF m 40 #[.val (.int p0), .val (.int (9 : Int32)), .val (.ref w_NOT_IN), .val (.int (0 : Int32)), .val (.int (0 : Int32))] [(.int (0 : Int32)), (.int (0 : Int32))]))
  refine own_st (fun t k => XS.icmpYes X2.here hx rfl (pc0 := 40) (pc' := 45) rfl (hb hby at_40) rfl (by decide) (by decide) (by decide) k) ?_
  show own_Fin p e below _ (T2.setTop (mkF m 45 #[.val (.int p0), .val (.int (9 : Int32)), .val (.ref w_NOT_IN), .val (.int (0 : Int32)), .val (.int (0 : Int32))] []))
  refine own_st (fun t k => XS.iload X2.here hx rfl (hb hby at_45) rfl k) ?_
  show own_Fin p e below _ (T2.setTop (mkF m 47 #[.val (.int p0), .val (.int (9 : Int32)), .val (.ref w_NOT_IN), .val (.int (0 : Int32)), .val (.int (0 : Int32))] [(.int (0 : Int32))]))
  refine own_st (fun t k => XS.ifYes X2.here hx rfl (pc0 := 47) (pc' := 73) rfl (hb hby at_47) rfl (by decide) (by decide) (by decide) k) ?_
  show own_Fin p e below _ (T2.setTop (mkF m 73 #[.val (.int p0), .val (.int (9 : Int32)), .val (.ref w_NOT_IN), .val (.int (0 : Int32)), .val (.int (0 : Int32))] []))
  refine own_st (fun t k => XS.iconst X2.here hx rfl (hb hby at_73) k) ?_
  show own_Fin p e below _ (T2.setTop (mkF m 74 #[.val (.int p0), .val (.int (9 : Int32)), .val (.ref w_NOT_IN), .val (.int (0 : Int32)), .val (.int (0 : Int32))] [(.int (1 : Int32))]))
  obtain ⟨fs, hr, hrun, hended, hW, hsame⟩ := X2.leave (v := some (.int (1 : Int32))) (fun h => by rw [Bd.returns] at h; cases h)
  exact ⟨_, _, retN X2 hx (t := .boolean) Bd.returns (by simp) (hb hby at_74) hr, hrun, hended, _, _, rfl, ⟨rfl, N2, e2⟩, ⟨_, rfl⟩, hW, hsame.mono (by decide) (by decide)⟩
theorem d1_132 : decode method_2_code 132 = .ok (.getstatic 40, 3) := by decide +kernel
theorem d1_135 : decode method_2_code 135 = .ok (.areturn, 1) := by decide +kernel
set_option maxRecDepth 65536 in
set_option maxHeartbeats 40000000 in
theorem rm1_10 (l : Launch) (Z : State) (a0 : Array Value) (hw : ∀ d ∈ tables_1, d.before a0 Z = true) (ws : List Jvm.Cond) (w_EQUAL w_IS_TRUE w_IS_FALSE w_GREATER_THAN_OR_EQUAL w_IS_NULL w_IS_NOT_NULL w_STARTING_WITH w_NOT_BETWEEN w_GREATER_THAN w_IN w_NOT_EQUAL w_NOT_IN w_ENDING_WITH w_BETWEEN w_NOT_CONTAINING w_CONTAINING w_LIKE w_LESS_THAN_OR_EQUAL w_LESS_THAN w_NOT_LIKE : Addr) (h0 : Heap) (n0 : Nat) (PN : own_Pins Z h0 w_EQUAL w_IS_TRUE w_IS_FALSE w_GREATER_THAN_OR_EQUAL w_IS_NULL w_IS_NOT_NULL w_STARTING_WITH w_NOT_BETWEEN w_GREATER_THAN w_IN w_NOT_EQUAL w_NOT_IN w_ENDING_WITH w_BETWEEN w_NOT_CONTAINING w_CONTAINING w_LIKE w_LESS_THAN_OR_EQUAL w_LESS_THAN w_NOT_LIKE) :
    MetFree l (⟨"com/example/rootward/rootward/jdbc/OperatorTestsTruthPinLaw", "pick", "(I)Lcom/example/rootward/rootward/jdbc/Condition$Operator;"⟩ : MethodName) (head1 (Jvm.Cond.code (⟨"com/example/rootward/rootward/jdbc/OperatorTestsTruthPinLaw", "pick", "(I)Lcom/example/rootward/rootward/jdbc/Condition$Operator;"⟩ : MethodName) method_2_code 1 (some (.object "com/example/rootward/rootward/jdbc/Condition$Operator")) :: ws) ({ frames := 0, cells := 0, slots := 0, locals := 0 } : Room)) (fun a U => a = #[(.int (10 : Int32))] ∧ Z.Warmed39 U.vm ∧ U.heap = h0) (fun _ _ _ _ _ => True) (fun _ U o U' => ∃ v L, o = .returned v ∧ own_Q h0 n0 (some (.ref w_IS_NULL)) v U'.heap L ∧ FrameEnd U o U' L ({ frames := 0, cells := 0, slots := 0, locals := 0 } : Room).cells ({ frames := 0, cells := 0, slots := 0, locals := 0 } : Room).slots) := by
  have S_IS_NULL : Sta Z h0 "com/example/rootward/rootward/jdbc/Condition$Operator" "IS_NULL" "Lcom/example/rootward/rootward/jdbc/Condition$Operator;" (.ref w_IS_NULL) := PN.2.2.2.2.2.2.2.2.1
  refine MetFree.of_bodySF (plainFor_of_name pn_com_example_rootward_rootward_jdbc_OperatorTestsTruthPinLaw) hisR ?_
  intro p e s m args below meth c s₁ Bd hml0 hP hK
  obtain ⟨rfl, hZ, hh⟩ := hP
  have hx := Bd.exec
  have hby := Bd.bytes
  have hml : c.maxLocals = 1 := hml0
  have hown : s.vm.findClass "com/example/rootward/rootward/jdbc/OperatorTestsTruthPinLaw" = some m.cls := findClass_of_methodNamed Bd.named
  have X0 : Stand p l e ({ frames := 0, cells := 0, slots := 0, locals := 0 } : Room) s m #[(.int (10 : Int32))] below meth c s₁ [] 0 0 := Stand.of_body Bd
  have e0 : s₁.heap = h0 := by rw [← hh, Bd.state]; rfl
  have N0 := Fr.nil n0
  refine (?_ : own_Fin p e below _ _)
  refine own_st (fun t k => castTop (ef_1_I m (10 : Int32)) k) ?_
  show own_Fin p e below _ (s₁.setTop (mkF m 0 #[.val (.int (10 : Int32))] []))
  refine own_st (fun t k => XS.iloadN X0.here hx rfl (hb hby d1_0) rfl k) ?_
  show own_Fin p e below _ (s₁.setTop (mkF m 1 #[.val (.int (10 : Int32))] [(.int (10 : Int32))]))
  refine own_st (fun t k => XS.tswIn X0.here hx rfl (pc0 := 1) (pc' := 132) rfl (hb hby d1_1) rfl (by decide) (o := 131) (by decide) (by decide) (by decide) k) ?_
  show own_Fin p e below _ (s₁.setTop (mkF m 132 #[.val (.int (10 : Int32))] []))
  obtain ⟨T1, X1, e1, st1⟩ := getS2 X0 hx hZ hown (host := "") (Or.inl (hw _ (List.mem_of_getElem? (i := 19) rfl))) Via.refl e0 S_IS_NULL (g := (mkF m 132 #[.val (.int (10 : Int32))] [])) rfl (hb hby d1_132)
  refine own_st st1 ?_
  show own_Fin p e below _ (T1.setTop (mkF m 135 #[.val (.int (10 : Int32))] [(.ref w_IS_NULL)]))
  obtain ⟨fs, hr, hrun, hended, hW, hsame⟩ := X1.leave (v := some (.ref w_IS_NULL)) (fun h => by rw [Bd.returns] at h; cases h)
  exact ⟨_, _, retOut X1 hx (t := (.object "com/example/rootward/rootward/jdbc/Condition$Operator")) Bd.returns rfl (Or.inr (Or.inr (Or.inr (Or.inr ⟨rfl, rfl, rfl⟩)))) (hb hby d1_135) hr, hrun, hended, _, _, rfl, ⟨rfl, N0, e1⟩, ⟨_, rfl⟩, hW, hsame.mono (by decide) (by decide)⟩
set_option maxRecDepth 65536 in
set_option maxHeartbeats 40000000 in
theorem rm2_w_IS_NULL (l : Launch) (Z : State) (a0 : Array Value) (hw : ∀ d ∈ tables_1, d.before a0 Z = true) (ws : List Jvm.Cond) (w_EQUAL w_IS_TRUE w_IS_FALSE w_GREATER_THAN_OR_EQUAL w_IS_NULL w_IS_NOT_NULL w_STARTING_WITH w_NOT_BETWEEN w_GREATER_THAN w_IN w_NOT_EQUAL w_NOT_IN w_ENDING_WITH w_BETWEEN w_NOT_CONTAINING w_CONTAINING w_LIKE w_LESS_THAN_OR_EQUAL w_LESS_THAN w_NOT_LIKE : Addr) (h0 : Heap) (n0 : Nat) (PN : own_Pins Z h0 w_EQUAL w_IS_TRUE w_IS_FALSE w_GREATER_THAN_OR_EQUAL w_IS_NULL w_IS_NOT_NULL w_STARTING_WITH w_NOT_BETWEEN w_GREATER_THAN w_IN w_NOT_EQUAL w_NOT_IN w_ENDING_WITH w_BETWEEN w_NOT_CONTAINING w_CONTAINING w_LIKE w_LESS_THAN_OR_EQUAL w_LESS_THAN w_NOT_LIKE) :
    MetFree l (⟨"com/example/rootward/rootward/jdbc/Condition$Operator", "testsTruth", "()Z"⟩ : MethodName) (head1 (Jvm.Cond.code (⟨"com/example/rootward/rootward/jdbc/Condition$Operator", "testsTruth", "()Z"⟩ : MethodName) prog_32_method_8_code 1 (some .boolean) :: ws) ({ frames := 0, cells := 0, slots := 0, locals := 0 } : Room)) (fun a U => a = #[(.ref w_IS_NULL)] ∧ Z.Warmed39 U.vm ∧ U.heap = h0) (fun _ _ _ _ _ => True) (fun _ U o U' => ∃ v L, o = .returned v ∧ own_Q h0 n0 (some (.int (0 : Int32))) v U'.heap L ∧ FrameEnd U o U' L ({ frames := 0, cells := 0, slots := 0, locals := 0 } : Room).cells ({ frames := 0, cells := 0, slots := 0, locals := 0 } : Room).slots) := by
  have S_IS_TRUE : Sta Z h0 "com/example/rootward/rootward/jdbc/Condition$Operator" "IS_TRUE" "Lcom/example/rootward/rootward/jdbc/Condition$Operator;" (.ref w_IS_TRUE) := PN.2.2.1
  have S_IS_FALSE : Sta Z h0 "com/example/rootward/rootward/jdbc/Condition$Operator" "IS_FALSE" "Lcom/example/rootward/rootward/jdbc/Condition$Operator;" (.ref w_IS_FALSE) := PN.2.2.2.2.1
  have F_IS_TRUE_ordinal : Fld Z h0 w_IS_TRUE "java/lang/Enum" "ordinal" "I" (.int 18) := PN.2.2.2.2.2.2.2.2.2.2.2.2.2.2.2.2.2.2.2.2.2.2.2.2.2.2.2.2.2.2.2.2.2.2.2.2.2.2.2.2.2.1
  have F_IS_FALSE_ordinal : Fld Z h0 w_IS_FALSE "java/lang/Enum" "ordinal" "I" (.int 19) := PN.2.2.2.2.2.2.2.2.2.2.2.2.2.2.2.2.2.2.2.2.2.2.2.2.2.2.2.2.2.2.2.2.2.2.2.2.2.2.2.2.2.2.1
  have F_IS_NULL_ordinal : Fld Z h0 w_IS_NULL "java/lang/Enum" "ordinal" "I" (.int 10) := PN.2.2.2.2.2.2.2.2.2.2.2.2.2.2.2.2.2.2.2.2.2.2.2.2.2.2.2.2.2.2.2.2.2.2.2.2.2.2.2.2.2.2.2.2.1
  refine MetFree.of_bodySF (plainFor_of_name pn_com_example_rootward_rootward_jdbc_Condition_Operator) hisR ?_
  intro p e s m args below meth c s₁ Bd hml0 hP hK
  obtain ⟨rfl, hZ, hh⟩ := hP
  have hx := Bd.exec
  have hby := Bd.bytes
  have hml : c.maxLocals = 1 := hml0
  have hown : s.vm.findClass "com/example/rootward/rootward/jdbc/Condition$Operator" = some m.cls := findClass_of_methodNamed Bd.named
  have X0 : Stand p l e ({ frames := 0, cells := 0, slots := 0, locals := 0 } : Room) s m #[(.ref w_IS_NULL)] below meth c s₁ [] 0 0 := Stand.of_body Bd
  have e0 : s₁.heap = h0 := by rw [← hh, Bd.state]; rfl
  have N0 := Fr.nil n0
  refine (?_ : own_Fin p e below _ _)
  refine own_st (fun t k => castTop (ef_2_R m w_IS_NULL) k) ?_
  show own_Fin p e below _ (s₁.setTop (mkF m 0 #[.val (.ref w_IS_NULL)] []))
  refine own_st (fun t k => XS.aloadN X0.here hx rfl (hb hby d2_0) rfl rfl k) ?_
  show own_Fin p e below _ (s₁.setTop (mkF m 1 #[.val (.ref w_IS_NULL)] [(.ref w_IS_NULL)]))
  obtain ⟨T1, X1, e1, st1⟩ := getS2 X0 hx hZ hown (host := "") (Or.inl (hw _ (List.mem_of_getElem? (i := 13) rfl))) Via.refl e0 S_IS_TRUE (g := (mkF m 1 #[.val (.ref w_IS_NULL)] [(.ref w_IS_NULL)])) rfl (hb hby d2_1)
  refine own_st st1 ?_
  show own_Fin p e below _ (T1.setTop (mkF m 4 #[.val (.ref w_IS_NULL)] [(.ref w_IS_TRUE), (.ref w_IS_NULL)]))
  refine own_st (fun t k => Jvm.RoadKit.acmp (g := (mkF m 4 #[.val (.ref w_IS_NULL)] [(.ref w_IS_TRUE), (.ref w_IS_NULL)])) X1 hx rfl rfl rfl (pc0 := 4) (pc' := 7) (same := false) rfl (hb hby d2_4) rfl (decide_eq_false fun q => (Fld.ne F_IS_NULL_ordinal F_IS_TRUE_ordinal (by simp)) (Value.ref.inj q)) (by decide) (by decide) k) ?_
  show own_Fin p e below _ (T1.setTop (mkF m 7 #[.val (.ref w_IS_NULL)] []))
  refine own_st (fun t k => XS.aloadN X1.here hx rfl (hb hby d2_7) rfl rfl k) ?_
  show own_Fin p e below _ (T1.setTop (mkF m 8 #[.val (.ref w_IS_NULL)] [(.ref w_IS_NULL)]))
  obtain ⟨T2, X2, e2, st2⟩ := getS2 X1 hx hZ hown (host := "") (Or.inl (hw _ (List.mem_of_getElem? (i := 15) rfl))) Via.refl e1 S_IS_FALSE (g := (mkF m 8 #[.val (.ref w_IS_NULL)] [(.ref w_IS_NULL)])) rfl (hb hby d2_8)
  refine own_st st2 ?_
  show own_Fin p e below _ (T2.setTop (mkF m 11 #[.val (.ref w_IS_NULL)] [(.ref w_IS_FALSE), (.ref w_IS_NULL)]))
  refine own_st (fun t k => Jvm.RoadKit.acmp (g := (mkF m 11 #[.val (.ref w_IS_NULL)] [(.ref w_IS_FALSE), (.ref w_IS_NULL)])) X2 hx rfl rfl rfl (pc0 := 11) (pc' := 18) (same := false) rfl (hb hby d2_11) rfl (decide_eq_false fun q => (Fld.ne F_IS_NULL_ordinal F_IS_FALSE_ordinal (by simp)) (Value.ref.inj q)) (by decide) (by decide) k) ?_
  show own_Fin p e below _ (T2.setTop (mkF m 18 #[.val (.ref w_IS_NULL)] []))
  refine own_st (fun t k => XS.iconst X2.here hx rfl (hb hby d2_18) k) ?_
  show own_Fin p e below _ (T2.setTop (mkF m 19 #[.val (.ref w_IS_NULL)] [(.int (0 : Int32))]))
  obtain ⟨fs, hr, hrun, hended, hW, hsame⟩ := X2.leave (v := some (.int (0 : Int32))) (fun h => by rw [Bd.returns] at h; cases h)
  exact ⟨_, _, retN X2 hx (t := .boolean) Bd.returns (by simp) (hb hby d2_19) hr, hrun, hended, _, _, rfl, ⟨rfl, N0, e2⟩, ⟨_, rfl⟩, hW, hsame.mono (by decide) (by decide)⟩
set_option maxRecDepth 65536 in
set_option maxHeartbeats 40000000 in
theorem rm0_c10 (l : Launch) (Z : State) (a0 : Array Value) (hw : ∀ d ∈ tables_1, d.before a0 Z = true) (ws : List Jvm.Cond) (w_EQUAL w_IS_TRUE w_IS_FALSE w_GREATER_THAN_OR_EQUAL w_IS_NULL w_IS_NOT_NULL w_STARTING_WITH w_NOT_BETWEEN w_GREATER_THAN w_IN w_NOT_EQUAL w_NOT_IN w_ENDING_WITH w_BETWEEN w_NOT_CONTAINING w_CONTAINING w_LIKE w_LESS_THAN_OR_EQUAL w_LESS_THAN w_NOT_LIKE : Addr) (p0 : Int32) (h0 : Heap) (n0 : Nat) (PN : own_Pins Z h0 w_EQUAL w_IS_TRUE w_IS_FALSE w_GREATER_THAN_OR_EQUAL w_IS_NULL w_IS_NOT_NULL w_STARTING_WITH w_NOT_BETWEEN w_GREATER_THAN w_IN w_NOT_EQUAL w_NOT_IN w_ENDING_WITH w_BETWEEN w_NOT_CONTAINING w_CONTAINING w_LIKE w_LESS_THAN_OR_EQUAL w_LESS_THAN w_NOT_LIKE) (q0 : ((p0 &&& (2147483647 : Int32)) % (20 : Int32)) = (10 : Int32)) :
    MetFree l x (head1 (Jvm.Cond.code x code maxLocals ret :: ws) room_1) (fun a U => a = #[(.int p0)] ∧ Z.Warmed39 U.vm ∧ U.heap = h0) (fun _ _ _ _ _ => True) (fun _ U o U' => ∃ v L, o = .returned v ∧ own_Q h0 n0 (some (.int (1 : Int32))) v U'.heap L ∧ FrameEnd U o U' L room_1.cells room_1.slots) := by
  have E_IS_NULL : Exa Z h0 w_IS_NULL "com/example/rootward/rootward/jdbc/Condition$Operator" := PN.2.2.2.2.2.2.2.2.2.1
  refine MetFree.of_bodySF (plainFor_of_name pn_com_example_rootward_rootward_jdbc_OperatorTestsTruthPinLaw) hisR ?_
  intro p e s m args below meth c s₁ Bd hml0 hP hK
  obtain ⟨rfl, hZ, hh⟩ := hP
  have hx := Bd.exec
  have hby := Bd.bytes
  have hml : c.maxLocals = 5 := hml0
  have hown : s.vm.findClass "com/example/rootward/rootward/jdbc/OperatorTestsTruthPinLaw" = some m.cls := findClass_of_methodNamed Bd.named
  have X0 : Stand p l e room_1 s m #[(.int p0)] below meth c s₁ [] 0 0 := Stand.of_body Bd
  have e0 : s₁.heap = h0 := by rw [← hh, Bd.state]; rfl
  have N0 := Fr.nil n0
  refine (?_ : own_Fin p e below _ _)
  refine own_st (fun t k => castTop (ef_0_I m p0) k) ?_
  show own_Fin p e below _ (s₁.setTop (mkF m 0 #[.val (.int p0), .unset, .unset, .unset, .unset] []))
  refine own_st (fun t k => XS.iloadN X0.here hx rfl (hb hby at_0) rfl k) ?_
  show own_Fin p e below _ (s₁.setTop (mkF m 1 #[.val (.int p0), .unset, .unset, .unset, .unset] [(.int p0)]))
  refine own_st (fun t k => X0.ldcI hx hown (mvT hZ (hw _ (List.mem_of_getElem? (i := 0) rfl))) rfl (hb hby at_1) k) ?_
  show own_Fin p e below _ (s₁.setTop (mkF m 3 #[.val (.int p0), .unset, .unset, .unset, .unset] [(.int (2147483647 : Int32)), (.int p0)]))
  refine own_st (fun t k => XS.iand X0.here hx rfl (hb hby at_3) rfl k) ?_
  show own_Fin p e below _ (s₁.setTop (mkF m 4 #[.val (.int p0), .unset, .unset, .unset, .unset] [(.int (p0 &&& (2147483647 : Int32)))]))
  refine own_st (fun t k => XS.bipush X0.here hx rfl (hb hby at_4) k) ?_
  show own_Fin p e below _ (s₁.setTop (mkF m 6 #[.val (.int p0), .unset, .unset, .unset, .unset] [(.int (20 : Int32)), (.int (p0 &&& (2147483647 : Int32)))]))
  refine own_st (fun t k => iremM X0 hx rfl (hb hby at_6) rfl (by decide) k) ?_
  show own_Fin p e below _ (s₁.setTop (mkF m 7 #[.val (.int p0), .unset, .unset, .unset, .unset] [(.int ((p0 &&& (2147483647 : Int32)) % (20 : Int32)))]))
  rw [q0]
  show own_Fin p e below _ (s₁.setTop (mkF m 7 #[.val (.int p0), .unset, .unset, .unset, .unset] [(.int (10 : Int32))]))
  refine own_st (fun t k => XS.istoreN X0.here hx rfl (hb hby at_7) rfl (l' := #[.val (.int p0), .val (.int (10 : Int32)), .unset, .unset, .unset]) rfl k) ?_
  show own_Fin p e below _ (s₁.setTop (mkF m 8 #[.val (.int p0), .val (.int (10 : Int32)), .unset, .unset, .unset] []))
  refine own_st (fun t k => XS.iloadN X0.here hx rfl (hb hby at_8) rfl k) ?_
  show own_Fin p e below _ (s₁.setTop (mkF m 9 #[.val (.int p0), .val (.int (10 : Int32)), .unset, .unset, .unset] [(.int (10 : Int32))]))
  obtain ⟨_, _, ⟨T1, L1, k1, n1⟩, -, X1, ⟨Lc1, hQ1, l1, y1, z1⟩, st1⟩ := Jvm.LawKit.callS X0 hx (y := (⟨"com/example/rootward/rootward/jdbc/OperatorTestsTruthPinLaw", "pick", "(I)Lcom/example/rootward/rootward/jdbc/Condition$Operator;"⟩ : MethodName)) hown (mvT hZ (hw _ (List.mem_of_getElem? (i := 1) rfl))) (mvT hZ (hw _ (List.mem_of_getElem? (i := 2) rfl))) (mvT hZ (hw _ (List.mem_of_getElem? (i := 3) rfl))) (mvT hZ (hw _ (List.mem_of_getElem? (i := 4) rfl))) (by decide) (backOf (W := 0) (rm1_10 l Z a0 hw [] w_EQUAL w_IS_TRUE w_IS_FALSE w_GREATER_THAN_OR_EQUAL w_IS_NULL w_IS_NOT_NULL w_STARTING_WITH w_NOT_BETWEEN w_GREATER_THAN w_IN w_NOT_EQUAL w_NOT_IN w_ENDING_WITH w_BETWEEN w_NOT_CONTAINING w_CONTAINING w_LIKE w_LESS_THAN_OR_EQUAL w_LESS_THAN w_NOT_LIKE h0 n0 PN) hZ (hw _ (List.mem_of_getElem? (i := 4) rfl)) (hw _ (List.mem_of_getElem? (i := 3) rfl)) (by decide) (by decide)) (g := (mkF m 9 #[.val (.int p0), .val (.int (10 : Int32)), .unset, .unset, .unset] [(.int (10 : Int32))])) rfl (by rw [hml]; rfl) (argsL := [(.int (10 : Int32))]) (rest := []) (lenOf pd__I_Lcom_example_rootward_rootward_jdbc_Condition_Operator_ rfl) rfl (by show 2 * 0 + _ ≤ _; exact Nat.le_of_eq rfl) (hb hby at_9) (fun _ _ => ⟨rfl, e0, (by decide : 0 + 0 ≤ _), (by decide : 0 + 0 ≤ _)⟩)
  dsimp only [Pt.U, Pt.locs, Pt.cells, Pt.slots] at X1 l1 y1 z1 st1 hQ1
  subst l1 y1 z1
  obtain ⟨rfl, N1q, e1⟩ := hQ1
  have N1 := Fr.app N0 N1q
  refine own_st st1 ?_
  show own_Fin p e below _ (T1.setTop (mkF m 12 #[.val (.int p0), .val (.int (10 : Int32)), .unset, .unset, .unset] [(.ref w_IS_NULL)]))
  refine own_st (fun t k => XS.astoreN X1.here hx rfl (hb hby at_12) rfl rfl (l' := #[.val (.int p0), .val (.int (10 : Int32)), .val (.ref w_IS_NULL), .unset, .unset]) rfl k) ?_
  show own_Fin p e below _ (T1.setTop (mkF m 13 #[.val (.int p0), .val (.int (10 : Int32)), .val (.ref w_IS_NULL), .unset, .unset] []))
  refine own_st (fun t k => XS.iloadN X1.here hx rfl (hb hby at_13) rfl k) ?_
  show own_Fin p e below _ (T1.setTop (mkF m 14 #[.val (.int p0), .val (.int (10 : Int32)), .val (.ref w_IS_NULL), .unset, .unset] [(.int (10 : Int32))]))
  refine own_st (fun t k => XS.bipush X1.here hx rfl (hb hby at_14) k) ?_
  show own_Fin p e below _ (T1.setTop (mkF m 16 #[.val (.int p0), .val (.int (10 : Int32)), .val (.ref w_IS_NULL), .unset, .unset] [(.int (18 : Int32)), (.int (10 : Int32))]))
  refine own_st (fun t k => XS.icmpNo X1.here hx rfl (hb hby at_16) rfl (by decide) k) ?_
  show own_Fin p e below _ (T1.setTop (mkF m 19 #[.val (.int p0), .val (.int (10 : Int32)), .val (.ref w_IS_NULL), .unset, .unset] []))
  refine own_st (fun t k => XS.iloadN X1.here hx rfl (hb hby at_19) rfl k) ?_
  show own_Fin p e below _ (T1.setTop (mkF m 20 #[.val (.int p0), .val (.int (10 : Int32)), .val (.ref w_IS_NULL), .unset, .unset] [(.int (10 : Int32))]))
  refine own_st (fun t k => XS.bipush X1.here hx rfl (hb hby at_20) k) ?_
  show own_Fin p e below _ (T1.setTop (mkF m 22 #[.val (.int p0), .val (.int (10 : Int32)), .val (.ref w_IS_NULL), .unset, .unset] [(.int (19 : Int32)), (.int (10 : Int32))]))
  refine own_st (fun t k => XS.icmpYes X1.here hx rfl (pc0 := 22) (pc' := 29) rfl (hb hby at_22) rfl (by decide) (by decide) (by decide) k) ?_
  show own_Fin p e below _ (T1.setTop (mkF m 29 #[.val (.int p0), .val (.int (10 : Int32)), .val (.ref w_IS_NULL), .unset, .unset] []))
  refine own_st (fun t k => XS.iconst X1.here hx rfl (hb hby at_29) k) ?_
  show own_Fin p e below _ (T1.setTop (mkF m 30 #[.val (.int p0), .val (.int (10 : Int32)), .val (.ref w_IS_NULL), .unset, .unset] [(.int (0 : Int32))]))
  refine own_st (fun t k => XS.istoreN X1.here hx rfl (hb hby at_30) rfl (l' := #[.val (.int p0), .val (.int (10 : Int32)), .val (.ref w_IS_NULL), .val (.int (0 : Int32)), .unset]) rfl k) ?_
  show own_Fin p e below _ (T1.setTop (mkF m 31 #[.val (.int p0), .val (.int (10 : Int32)), .val (.ref w_IS_NULL), .val (.int (0 : Int32)), .unset] []))
  refine own_st (fun t k => XS.aloadN X1.here hx rfl (hb hby at_31) rfl rfl k) ?_
  show own_Fin p e below _ (T1.setTop (mkF m 32 #[.val (.int p0), .val (.int (10 : Int32)), .val (.ref w_IS_NULL), .val (.int (0 : Int32)), .unset] [(.ref w_IS_NULL)]))
  obtain ⟨cq2, kq2, q2a, q2b, q2c⟩ := isOf hZ e1 E_IS_NULL
  obtain ⟨_, _, ⟨T2, L2, k2, n2⟩, -, X2, ⟨Lc2, hQ2, l2, y2, z2⟩, st2⟩ := X1.virtualBack hx (y := (⟨"com/example/rootward/rootward/jdbc/Condition$Operator", "testsTruth", "()Z"⟩ : MethodName)) (z := (⟨"com/example/rootward/rootward/jdbc/Condition$Operator", "testsTruth", "()Z"⟩ : MethodName)) hown (mvT hZ (hw _ (List.mem_of_getElem? (i := 8) rfl))) (mvT hZ (hw _ (List.mem_of_getElem? (i := 9) rfl))) (notFace_of_selects (args := #[]) (mvT hZ (hw _ (List.mem_of_getElem? (i := 11) rfl)))) (mvT hZ (hw _ (List.mem_of_getElem? (i := 11) rfl))) (mvT hZ (hw _ (List.mem_of_getElem? (i := 10) rfl))) (by decide) (backOf (W := 0) (rm2_w_IS_NULL l Z a0 hw [] w_EQUAL w_IS_TRUE w_IS_FALSE w_GREATER_THAN_OR_EQUAL w_IS_NULL w_IS_NOT_NULL w_STARTING_WITH w_NOT_BETWEEN w_GREATER_THAN w_IN w_NOT_EQUAL w_NOT_IN w_ENDING_WITH w_BETWEEN w_NOT_CONTAINING w_CONTAINING w_LIKE w_LESS_THAN_OR_EQUAL w_LESS_THAN w_NOT_LIKE h0 n0 PN) hZ (hw _ (List.mem_of_getElem? (i := 12) rfl)) (hw _ (List.mem_of_getElem? (i := 6) rfl)) (by decide) (by decide)) q2a q2c (g := (mkF m 32 #[.val (.int p0), .val (.int (10 : Int32)), .val (.ref w_IS_NULL), .val (.int (0 : Int32)), .unset] [(.ref w_IS_NULL)])) rfl (by rw [hml]; rfl) (Steps.refl _) (argsL := []) (rest := []) (lenOf pd___Z rfl) rfl (by show 2 * 0 + _ ≤ _; exact Nat.le_of_eq rfl) (hb hby at_32) (fun _ _ => ⟨rfl, e1, (by decide : 0 + 0 ≤ _), (by decide : 0 + 0 ≤ _)⟩)
  dsimp only [Pt.U, Pt.locs, Pt.cells, Pt.slots] at X2 l2 y2 z2 st2 hQ2
  subst l2 y2 z2
  obtain ⟨rfl, N2q, e2⟩ := hQ2
  have N2 := Fr.app N1 N2q
  refine own_tr st2 ?_
  show own_Fin p e below _ (T2.setTop (mkF m 35 #[.val (.int p0), .val (.int (10 : Int32)), .val (.ref w_IS_NULL), .val (.int (0 : Int32)), .unset] [(.int (0 : Int32))]))
  refine own_st (fun t k => XS.istore X2.here hx rfl (hb hby at_35) rfl (l' := #[.val (.int p0), .val (.int (10 : Int32)), .val (.ref w_IS_NULL), .val (.int (0 : Int32)), .val (.int (0 : Int32))]) rfl k) ?_
  show own_Fin p e below _ (T2.setTop (mkF m 37 #[.val (.int p0), .val (.int (10 : Int32)), .val (.ref w_IS_NULL), .val (.int (0 : Int32)), .val (.int (0 : Int32))] []))
  refine own_st (fun t k => XS.iload X2.here hx rfl (hb hby at_37) rfl k) ?_
  show own_Fin p e below _ (T2.setTop (mkF m 39 #[.val (.int p0), .val (.int (10 : Int32)), .val (.ref w_IS_NULL), .val (.int (0 : Int32)), .val (.int (0 : Int32))] [(.int (0 : Int32))]))
  refine own_st (fun t k => XS.iloadN X2.here hx rfl (hb hby at_39) rfl k) ?_
  show own_Fin p e below _ (T2.setTop (mkF m 40 #[.val (.int p0), .val (.int (10 : Int32)), .val (.ref w_IS_NULL), .val (.int (0 : Int32)), .val (.int (0 : Int32))] [(.int (0 : Int32)), (.int (0 : Int32))]))
  refine own_st (fun t k => XS.icmpYes X2.here hx rfl (pc0 := 40) (pc' := 45) rfl (hb hby at_40) rfl (by decide) (by decide) (by decide) k) ?_
  show own_Fin p e below _ (T2.setTop (mkF m 45 #[.val (.int p0), .val (.int (10 : Int32)), .val (.ref w_IS_NULL), .val (.int (0 : Int32)), .val (.int (0 : Int32))] []))
  refine own_st (fun t k => XS.iload X2.here hx rfl (hb hby at_45) rfl k) ?_
  show own_Fin p e below _ (T2.setTop (mkF m 47 #[.val (.int p0), .val (.int (10 : Int32)), .val (.ref w_IS_NULL), .val (.int (0 : Int32)), .val (.int (0 : Int32))] [(.int (0 : Int32))]))
  refine own_st (fun t k => XS.ifYes X2.here hx rfl (pc0 := 47) (pc' := 73) rfl (hb hby at_47) rfl (by decide) (by decide) (by decide) k) ?_
  show own_Fin p e below _ (T2.setTop (mkF m 73 #[.val (.int p0), .val (.int (10 : Int32)), .val (.ref w_IS_NULL), .val (.int (0 : Int32)), .val (.int (0 : Int32))] []))
  refine own_st (fun t k => XS.iconst X2.here hx rfl (hb hby at_73) k) ?_
  show own_Fin p e below _ (T2.setTop (mkF m 74 #[.val (.int p0), .val (.int (10 : Int32)), .val (.ref w_IS_NULL), .val (.int (0 : Int32)), .val (.int (0 : Int32))] [(.int (1 : Int32))]))
  obtain ⟨fs, hr, hrun, hended, hW, hsame⟩ := X2.leave (v := some (.int (1 : Int32))) (fun h => by rw [Bd.returns] at h; cases h)
  exact ⟨_, _, retN X2 hx (t := .boolean) Bd.returns (by simp) (hb hby at_74) hr, hrun, hended, _, _, rfl, ⟨rfl, N2, e2⟩, ⟨_, rfl⟩, hW, hsame.mono (by decide) (by decide)⟩
theorem d1_136 : decode method_2_code 136 = .ok (.getstatic 43, 3) := by decide +kernel
theorem d1_139 : decode method_2_code 139 = .ok (.areturn, 1) := by decide +kernel
set_option maxRecDepth 65536 in
set_option maxHeartbeats 40000000 in
theorem rm1_11 (l : Launch) (Z : State) (a0 : Array Value) (hw : ∀ d ∈ tables_1, d.before a0 Z = true) (ws : List Jvm.Cond) (w_EQUAL w_IS_TRUE w_IS_FALSE w_GREATER_THAN_OR_EQUAL w_IS_NULL w_IS_NOT_NULL w_STARTING_WITH w_NOT_BETWEEN w_GREATER_THAN w_IN w_NOT_EQUAL w_NOT_IN w_ENDING_WITH w_BETWEEN w_NOT_CONTAINING w_CONTAINING w_LIKE w_LESS_THAN_OR_EQUAL w_LESS_THAN w_NOT_LIKE : Addr) (h0 : Heap) (n0 : Nat) (PN : own_Pins Z h0 w_EQUAL w_IS_TRUE w_IS_FALSE w_GREATER_THAN_OR_EQUAL w_IS_NULL w_IS_NOT_NULL w_STARTING_WITH w_NOT_BETWEEN w_GREATER_THAN w_IN w_NOT_EQUAL w_NOT_IN w_ENDING_WITH w_BETWEEN w_NOT_CONTAINING w_CONTAINING w_LIKE w_LESS_THAN_OR_EQUAL w_LESS_THAN w_NOT_LIKE) :
    MetFree l (⟨"com/example/rootward/rootward/jdbc/OperatorTestsTruthPinLaw", "pick", "(I)Lcom/example/rootward/rootward/jdbc/Condition$Operator;"⟩ : MethodName) (head1 (Jvm.Cond.code (⟨"com/example/rootward/rootward/jdbc/OperatorTestsTruthPinLaw", "pick", "(I)Lcom/example/rootward/rootward/jdbc/Condition$Operator;"⟩ : MethodName) method_2_code 1 (some (.object "com/example/rootward/rootward/jdbc/Condition$Operator")) :: ws) ({ frames := 0, cells := 0, slots := 0, locals := 0 } : Room)) (fun a U => a = #[(.int (11 : Int32))] ∧ Z.Warmed39 U.vm ∧ U.heap = h0) (fun _ _ _ _ _ => True) (fun _ U o U' => ∃ v L, o = .returned v ∧ own_Q h0 n0 (some (.ref w_IS_NOT_NULL)) v U'.heap L ∧ FrameEnd U o U' L ({ frames := 0, cells := 0, slots := 0, locals := 0 } : Room).cells ({ frames := 0, cells := 0, slots := 0, locals := 0 } : Room).slots) := by
  have S_IS_NOT_NULL : Sta Z h0 "com/example/rootward/rootward/jdbc/Condition$Operator" "IS_NOT_NULL" "Lcom/example/rootward/rootward/jdbc/Condition$Operator;" (.ref w_IS_NOT_NULL) := PN.2.2.2.2.2.2.2.2.2.2.1
  refine MetFree.of_bodySF (plainFor_of_name pn_com_example_rootward_rootward_jdbc_OperatorTestsTruthPinLaw) hisR ?_
  intro p e s m args below meth c s₁ Bd hml0 hP hK
  obtain ⟨rfl, hZ, hh⟩ := hP
  have hx := Bd.exec
  have hby := Bd.bytes
  have hml : c.maxLocals = 1 := hml0
  have hown : s.vm.findClass "com/example/rootward/rootward/jdbc/OperatorTestsTruthPinLaw" = some m.cls := findClass_of_methodNamed Bd.named
  have X0 : Stand p l e ({ frames := 0, cells := 0, slots := 0, locals := 0 } : Room) s m #[(.int (11 : Int32))] below meth c s₁ [] 0 0 := Stand.of_body Bd
  have e0 : s₁.heap = h0 := by rw [← hh, Bd.state]; rfl
  have N0 := Fr.nil n0
  refine (?_ : own_Fin p e below _ _)
  refine own_st (fun t k => castTop (ef_1_I m (11 : Int32)) k) ?_
  show own_Fin p e below _ (s₁.setTop (mkF m 0 #[.val (.int (11 : Int32))] []))
  refine own_st (fun t k => XS.iloadN X0.here hx rfl (hb hby d1_0) rfl k) ?_
  show own_Fin p e below _ (s₁.setTop (mkF m 1 #[.val (.int (11 : Int32))] [(.int (11 : Int32))]))
  refine own_st (fun t k => XS.tswIn X0.here hx rfl (pc0 := 1) (pc' := 136) rfl (hb hby d1_1) rfl (by decide) (o := 135) (by decide) (by decide) (by decide) k) ?_
  show own_Fin p e below _ (s₁.setTop (mkF m 136 #[.val (.int (11 : Int32))] []))
  obtain ⟨T1, X1, e1, st1⟩ := getS2 X0 hx hZ hown (host := "") (Or.inl (hw _ (List.mem_of_getElem? (i := 21) rfl))) Via.refl e0 S_IS_NOT_NULL (g := (mkF m 136 #[.val (.int (11 : Int32))] [])) rfl (hb hby d1_136)
  refine own_st st1 ?_
  show own_Fin p e below _ (T1.setTop (mkF m 139 #[.val (.int (11 : Int32))] [(.ref w_IS_NOT_NULL)]))
  obtain ⟨fs, hr, hrun, hended, hW, hsame⟩ := X1.leave (v := some (.ref w_IS_NOT_NULL)) (fun h => by rw [Bd.returns] at h; cases h)
  exact ⟨_, _, retOut X1 hx (t := (.object "com/example/rootward/rootward/jdbc/Condition$Operator")) Bd.returns rfl (Or.inr (Or.inr (Or.inr (Or.inr ⟨rfl, rfl, rfl⟩)))) (hb hby d1_139) hr, hrun, hended, _, _, rfl, ⟨rfl, N0, e1⟩, ⟨_, rfl⟩, hW, hsame.mono (by decide) (by decide)⟩
set_option maxRecDepth 65536 in
set_option maxHeartbeats 40000000 in
theorem rm2_w_IS_NOT_NULL (l : Launch) (Z : State) (a0 : Array Value) (hw : ∀ d ∈ tables_1, d.before a0 Z = true) (ws : List Jvm.Cond) (w_EQUAL w_IS_TRUE w_IS_FALSE w_GREATER_THAN_OR_EQUAL w_IS_NULL w_IS_NOT_NULL w_STARTING_WITH w_NOT_BETWEEN w_GREATER_THAN w_IN w_NOT_EQUAL w_NOT_IN w_ENDING_WITH w_BETWEEN w_NOT_CONTAINING w_CONTAINING w_LIKE w_LESS_THAN_OR_EQUAL w_LESS_THAN w_NOT_LIKE : Addr) (h0 : Heap) (n0 : Nat) (PN : own_Pins Z h0 w_EQUAL w_IS_TRUE w_IS_FALSE w_GREATER_THAN_OR_EQUAL w_IS_NULL w_IS_NOT_NULL w_STARTING_WITH w_NOT_BETWEEN w_GREATER_THAN w_IN w_NOT_EQUAL w_NOT_IN w_ENDING_WITH w_BETWEEN w_NOT_CONTAINING w_CONTAINING w_LIKE w_LESS_THAN_OR_EQUAL w_LESS_THAN w_NOT_LIKE) :
    MetFree l (⟨"com/example/rootward/rootward/jdbc/Condition$Operator", "testsTruth", "()Z"⟩ : MethodName) (head1 (Jvm.Cond.code (⟨"com/example/rootward/rootward/jdbc/Condition$Operator", "testsTruth", "()Z"⟩ : MethodName) prog_32_method_8_code 1 (some .boolean) :: ws) ({ frames := 0, cells := 0, slots := 0, locals := 0 } : Room)) (fun a U => a = #[(.ref w_IS_NOT_NULL)] ∧ Z.Warmed39 U.vm ∧ U.heap = h0) (fun _ _ _ _ _ => True) (fun _ U o U' => ∃ v L, o = .returned v ∧ own_Q h0 n0 (some (.int (0 : Int32))) v U'.heap L ∧ FrameEnd U o U' L ({ frames := 0, cells := 0, slots := 0, locals := 0 } : Room).cells ({ frames := 0, cells := 0, slots := 0, locals := 0 } : Room).slots) := by
  have S_IS_TRUE : Sta Z h0 "com/example/rootward/rootward/jdbc/Condition$Operator" "IS_TRUE" "Lcom/example/rootward/rootward/jdbc/Condition$Operator;" (.ref w_IS_TRUE) := PN.2.2.1
  have S_IS_FALSE : Sta Z h0 "com/example/rootward/rootward/jdbc/Condition$Operator" "IS_FALSE" "Lcom/example/rootward/rootward/jdbc/Condition$Operator;" (.ref w_IS_FALSE) := PN.2.2.2.2.1
  have F_IS_TRUE_ordinal : Fld Z h0 w_IS_TRUE "java/lang/Enum" "ordinal" "I" (.int 18) := PN.2.2.2.2.2.2.2.2.2.2.2.2.2.2.2.2.2.2.2.2.2.2.2.2.2.2.2.2.2.2.2.2.2.2.2.2.2.2.2.2.2.1
  have F_IS_FALSE_ordinal : Fld Z h0 w_IS_FALSE "java/lang/Enum" "ordinal" "I" (.int 19) := PN.2.2.2.2.2.2.2.2.2.2.2.2.2.2.2.2.2.2.2.2.2.2.2.2.2.2.2.2.2.2.2.2.2.2.2.2.2.2.2.2.2.2.1
  have F_IS_NOT_NULL_ordinal : Fld Z h0 w_IS_NOT_NULL "java/lang/Enum" "ordinal" "I" (.int 11) := PN.2.2.2.2.2.2.2.2.2.2.2.2.2.2.2.2.2.2.2.2.2.2.2.2.2.2.2.2.2.2.2.2.2.2.2.2.2.2.2.2.2.2.2.2.2.1
  refine MetFree.of_bodySF (plainFor_of_name pn_com_example_rootward_rootward_jdbc_Condition_Operator) hisR ?_
  intro p e s m args below meth c s₁ Bd hml0 hP hK
  obtain ⟨rfl, hZ, hh⟩ := hP
  have hx := Bd.exec
  have hby := Bd.bytes
  have hml : c.maxLocals = 1 := hml0
  have hown : s.vm.findClass "com/example/rootward/rootward/jdbc/Condition$Operator" = some m.cls := findClass_of_methodNamed Bd.named
  have X0 : Stand p l e ({ frames := 0, cells := 0, slots := 0, locals := 0 } : Room) s m #[(.ref w_IS_NOT_NULL)] below meth c s₁ [] 0 0 := Stand.of_body Bd
  have e0 : s₁.heap = h0 := by rw [← hh, Bd.state]; rfl
  have N0 := Fr.nil n0
  refine (?_ : own_Fin p e below _ _)
  refine own_st (fun t k => castTop (ef_2_R m w_IS_NOT_NULL) k) ?_
  show own_Fin p e below _ (s₁.setTop (mkF m 0 #[.val (.ref w_IS_NOT_NULL)] []))
  refine own_st (fun t k => XS.aloadN X0.here hx rfl (hb hby d2_0) rfl rfl k) ?_
  show own_Fin p e below _ (s₁.setTop (mkF m 1 #[.val (.ref w_IS_NOT_NULL)] [(.ref w_IS_NOT_NULL)]))
  obtain ⟨T1, X1, e1, st1⟩ := getS2 X0 hx hZ hown (host := "") (Or.inl (hw _ (List.mem_of_getElem? (i := 13) rfl))) Via.refl e0 S_IS_TRUE (g := (mkF m 1 #[.val (.ref w_IS_NOT_NULL)] [(.ref w_IS_NOT_NULL)])) rfl (hb hby d2_1)
  refine own_st st1 ?_
  show own_Fin p e below _ (T1.setTop (mkF m 4 #[.val (.ref w_IS_NOT_NULL)] [(.ref w_IS_TRUE), (.ref w_IS_NOT_NULL)]))
  refine own_st (fun t k => Jvm.RoadKit.acmp (g := (mkF m 4 #[.val (.ref w_IS_NOT_NULL)] [(.ref w_IS_TRUE), (.ref w_IS_NOT_NULL)])) X1 hx rfl rfl rfl (pc0 := 4) (pc' := 7) (same := false) rfl (hb hby d2_4) rfl (decide_eq_false fun q => (Fld.ne F_IS_NOT_NULL_ordinal F_IS_TRUE_ordinal (by simp)) (Value.ref.inj q)) (by decide) (by decide) k) ?_
  show own_Fin p e below _ (T1.setTop (mkF m 7 #[.val (.ref w_IS_NOT_NULL)] []))
  refine own_st (fun t k => XS.aloadN X1.here hx rfl (hb hby d2_7) rfl rfl k) ?_
  show own_Fin p e below _ (T1.setTop (mkF m 8 #[.val (.ref w_IS_NOT_NULL)] [(.ref w_IS_NOT_NULL)]))
  obtain ⟨T2, X2, e2, st2⟩ := getS2 X1 hx hZ hown (host := "") (Or.inl (hw _ (List.mem_of_getElem? (i := 15) rfl))) Via.refl e1 S_IS_FALSE (g := (mkF m 8 #[.val (.ref w_IS_NOT_NULL)] [(.ref w_IS_NOT_NULL)])) rfl (hb hby d2_8)
  refine own_st st2 ?_
  show own_Fin p e below _ (T2.setTop (mkF m 11 #[.val (.ref w_IS_NOT_NULL)] [(.ref w_IS_FALSE), (.ref w_IS_NOT_NULL)]))
  refine own_st (fun t k => Jvm.RoadKit.acmp (g := (mkF m 11 #[.val (.ref w_IS_NOT_NULL)] [(.ref w_IS_FALSE), (.ref w_IS_NOT_NULL)])) X2 hx rfl rfl rfl (pc0 := 11) (pc' := 18) (same := false) rfl (hb hby d2_11) rfl (decide_eq_false fun q => (Fld.ne F_IS_NOT_NULL_ordinal F_IS_FALSE_ordinal (by simp)) (Value.ref.inj q)) (by decide) (by decide) k) ?_
  show own_Fin p e below _ (T2.setTop (mkF m 18 #[.val (.ref w_IS_NOT_NULL)] []))
  refine own_st (fun t k => XS.iconst X2.here hx rfl (hb hby d2_18) k) ?_
  show own_Fin p e below _ (T2.setTop (mkF m 19 #[.val (.ref w_IS_NOT_NULL)] [(.int (0 : Int32))]))
  obtain ⟨fs, hr, hrun, hended, hW, hsame⟩ := X2.leave (v := some (.int (0 : Int32))) (fun h => by rw [Bd.returns] at h; cases h)
  exact ⟨_, _, retN X2 hx (t := .boolean) Bd.returns (by simp) (hb hby d2_19) hr, hrun, hended, _, _, rfl, ⟨rfl, N0, e2⟩, ⟨_, rfl⟩, hW, hsame.mono (by decide) (by decide)⟩
set_option maxRecDepth 65536 in
set_option maxHeartbeats 40000000 in
theorem rm0_c11 (l : Launch) (Z : State) (a0 : Array Value) (hw : ∀ d ∈ tables_1, d.before a0 Z = true) (ws : List Jvm.Cond) (w_EQUAL w_IS_TRUE w_IS_FALSE w_GREATER_THAN_OR_EQUAL w_IS_NULL w_IS_NOT_NULL w_STARTING_WITH w_NOT_BETWEEN w_GREATER_THAN w_IN w_NOT_EQUAL w_NOT_IN w_ENDING_WITH w_BETWEEN w_NOT_CONTAINING w_CONTAINING w_LIKE w_LESS_THAN_OR_EQUAL w_LESS_THAN w_NOT_LIKE : Addr) (p0 : Int32) (h0 : Heap) (n0 : Nat) (PN : own_Pins Z h0 w_EQUAL w_IS_TRUE w_IS_FALSE w_GREATER_THAN_OR_EQUAL w_IS_NULL w_IS_NOT_NULL w_STARTING_WITH w_NOT_BETWEEN w_GREATER_THAN w_IN w_NOT_EQUAL w_NOT_IN w_ENDING_WITH w_BETWEEN w_NOT_CONTAINING w_CONTAINING w_LIKE w_LESS_THAN_OR_EQUAL w_LESS_THAN w_NOT_LIKE) (q0 : ((p0 &&& (2147483647 : Int32)) % (20 : Int32)) = (11 : Int32)) :
    MetFree l x (head1 (Jvm.Cond.code x code maxLocals ret :: ws) room_1) (fun a U => a = #[(.int p0)] ∧ Z.Warmed39 U.vm ∧ U.heap = h0) (fun _ _ _ _ _ => True) (fun _ U o U' => ∃ v L, o = .returned v ∧ own_Q h0 n0 (some (.int (1 : Int32))) v U'.heap L ∧ FrameEnd U o U' L room_1.cells room_1.slots) := by
  have E_IS_NOT_NULL : Exa Z h0 w_IS_NOT_NULL "com/example/rootward/rootward/jdbc/Condition$Operator" := PN.2.2.2.2.2.2.2.2.2.2.2.1
  refine MetFree.of_bodySF (plainFor_of_name pn_com_example_rootward_rootward_jdbc_OperatorTestsTruthPinLaw) hisR ?_
  intro p e s m args below meth c s₁ Bd hml0 hP hK
  obtain ⟨rfl, hZ, hh⟩ := hP
  have hx := Bd.exec
  have hby := Bd.bytes
  have hml : c.maxLocals = 5 := hml0
  have hown : s.vm.findClass "com/example/rootward/rootward/jdbc/OperatorTestsTruthPinLaw" = some m.cls := findClass_of_methodNamed Bd.named
  have X0 : Stand p l e room_1 s m #[(.int p0)] below meth c s₁ [] 0 0 := Stand.of_body Bd
  have e0 : s₁.heap = h0 := by rw [← hh, Bd.state]; rfl
  have N0 := Fr.nil n0
  refine (?_ : own_Fin p e below _ _)
  refine own_st (fun t k => castTop (ef_0_I m p0) k) ?_
  show own_Fin p e below _ (s₁.setTop (mkF m 0 #[.val (.int p0), .unset, .unset, .unset, .unset] []))
  refine own_st (fun t k => XS.iloadN X0.here hx rfl (hb hby at_0) rfl k) ?_
  show own_Fin p e below _ (s₁.setTop (mkF m 1 #[.val (.int p0), .unset, .unset, .unset, .unset] [(.int p0)]))
  refine own_st (fun t k => X0.ldcI hx hown (mvT hZ (hw _ (List.mem_of_getElem? (i := 0) rfl))) rfl (hb hby at_1) k) ?_
  show own_Fin p e below _ (s₁.setTop (mkF m 3 #[.val (.int p0), .unset, .unset, .unset, .unset] [(.int (2147483647 : Int32)), (.int p0)]))
  refine own_st (fun t k => XS.iand X0.here hx rfl (hb hby at_3) rfl k) ?_
  show own_Fin p e below _ (s₁.setTop (mkF m 4 #[.val (.int p0), .unset, .unset, .unset, .unset] [(.int (p0 &&& (2147483647 : Int32)))]))
  refine own_st (fun t k => XS.bipush X0.here hx rfl (hb hby at_4) k) ?_
  show own_Fin p e below _ (s₁.setTop (mkF m 6 #[.val (.int p0), .unset, .unset, .unset, .unset] [(.int (20 : Int32)), (.int (p0 &&& (2147483647 : Int32)))]))
  refine own_st (fun t k => iremM X0 hx rfl (hb hby at_6) rfl (by decide) k) ?_
  show own_Fin p e below _ (s₁.setTop (mkF m 7 #[.val (.int p0), .unset, .unset, .unset, .unset] [(.int ((p0 &&& (2147483647 : Int32)) % (20 : Int32)))]))
  rw [q0]
  show own_Fin p e below _ (s₁.setTop (mkF m 7 #[.val (.int p0), .unset, .unset, .unset, .unset] [(.int (11 : Int32))]))
  refine own_st (fun t k => XS.istoreN X0.here hx rfl (hb hby at_7) rfl (l' := #[.val (.int p0), .val (.int (11 : Int32)), .unset, .unset, .unset]) rfl k) ?_
  show own_Fin p e below _ (s₁.setTop (mkF m 8 #[.val (.int p0), .val (.int (11 : Int32)), .unset, .unset, .unset] []))
  refine own_st (fun t k => XS.iloadN X0.here hx rfl (hb hby at_8) rfl k) ?_
  show own_Fin p e below _ (s₁.setTop (mkF m 9 #[.val (.int p0), .val (.int (11 : Int32)), .unset, .unset, .unset] [(.int (11 : Int32))]))
  obtain ⟨_, _, ⟨T1, L1, k1, n1⟩, -, X1, ⟨Lc1, hQ1, l1, y1, z1⟩, st1⟩ := Jvm.LawKit.callS X0 hx (y := (⟨"com/example/rootward/rootward/jdbc/OperatorTestsTruthPinLaw", "pick", "(I)Lcom/example/rootward/rootward/jdbc/Condition$Operator;"⟩ : MethodName)) hown (mvT hZ (hw _ (List.mem_of_getElem? (i := 1) rfl))) (mvT hZ (hw _ (List.mem_of_getElem? (i := 2) rfl))) (mvT hZ (hw _ (List.mem_of_getElem? (i := 3) rfl))) (mvT hZ (hw _ (List.mem_of_getElem? (i := 4) rfl))) (by decide) (backOf (W := 0) (rm1_11 l Z a0 hw [] w_EQUAL w_IS_TRUE w_IS_FALSE w_GREATER_THAN_OR_EQUAL w_IS_NULL w_IS_NOT_NULL w_STARTING_WITH w_NOT_BETWEEN w_GREATER_THAN w_IN w_NOT_EQUAL w_NOT_IN w_ENDING_WITH w_BETWEEN w_NOT_CONTAINING w_CONTAINING w_LIKE w_LESS_THAN_OR_EQUAL w_LESS_THAN w_NOT_LIKE h0 n0 PN) hZ (hw _ (List.mem_of_getElem? (i := 4) rfl)) (hw _ (List.mem_of_getElem? (i := 3) rfl)) (by decide) (by decide)) (g := (mkF m 9 #[.val (.int p0), .val (.int (11 : Int32)), .unset, .unset, .unset] [(.int (11 : Int32))])) rfl (by rw [hml]; rfl) (argsL := [(.int (11 : Int32))]) (rest := []) (lenOf pd__I_Lcom_example_rootward_rootward_jdbc_Condition_Operator_ rfl) rfl (by show 2 * 0 + _ ≤ _; exact Nat.le_of_eq rfl) (hb hby at_9) (fun _ _ => ⟨rfl, e0, (by decide : 0 + 0 ≤ _), (by decide : 0 + 0 ≤ _)⟩)
  dsimp only [Pt.U, Pt.locs, Pt.cells, Pt.slots] at X1 l1 y1 z1 st1 hQ1
  subst l1 y1 z1
  obtain ⟨rfl, N1q, e1⟩ := hQ1
  have N1 := Fr.app N0 N1q
  refine own_st st1 ?_
  show own_Fin p e below _ (T1.setTop (mkF m 12 #[.val (.int p0), .val (.int (11 : Int32)), .unset, .unset, .unset] [(.ref w_IS_NOT_NULL)]))
  refine own_st (fun t k => XS.astoreN X1.here hx rfl (hb hby at_12) rfl rfl (l' := #[.val (.int p0), .val (.int (11 : Int32)), .val (.ref w_IS_NOT_NULL), .unset, .unset]) rfl k) ?_
  show own_Fin p e below _ (T1.setTop (mkF m 13 #[.val (.int p0), .val (.int (11 : Int32)), .val (.ref w_IS_NOT_NULL), .unset, .unset] []))
  refine own_st (fun t k => XS.iloadN X1.here hx rfl (hb hby at_13) rfl k) ?_
  show own_Fin p e below _ (T1.setTop (mkF m 14 #[.val (.int p0), .val (.int (11 : Int32)), .val (.ref w_IS_NOT_NULL), .unset, .unset] [(.int (11 : Int32))]))
  refine own_st (fun t k => XS.bipush X1.here hx rfl (hb hby at_14) k) ?_
  show own_Fin p e below _ (T1.setTop (mkF m 16 #[.val (.int p0), .val (.int (11 : Int32)), .val (.ref w_IS_NOT_NULL), .unset, .unset] [(.int (18 : Int32)), (.int (11 : Int32))]))
  refine own_st (fun t k => XS.icmpNo X1.here hx rfl (hb hby at_16) rfl (by decide) k) ?_
  show own_Fin p e below _ (T1.setTop (mkF m 19 #[.val (.int p0), .val (.int (11 : Int32)), .val (.ref w_IS_NOT_NULL), .unset, .unset] []))
  refine own_st (fun t k => XS.iloadN X1.here hx rfl (hb hby at_19) rfl k) ?_
  show own_Fin p e below _ (T1.setTop (mkF m 20 #[.val (.int p0), .val (.int (11 : Int32)), .val (.ref w_IS_NOT_NULL), .unset, .unset] [(.int (11 : Int32))]))
  refine own_st (fun t k => XS.bipush X1.here hx rfl (hb hby at_20) k) ?_
  show own_Fin p e below _ (T1.setTop (mkF m 22 #[.val (.int p0), .val (.int (11 : Int32)), .val (.ref w_IS_NOT_NULL), .unset, .unset] [(.int (19 : Int32)), (.int (11 : Int32))]))
  refine own_st (fun t k => XS.icmpYes X1.here hx rfl (pc0 := 22) (pc' := 29) rfl (hb hby at_22) rfl (by decide) (by decide) (by decide) k) ?_
  show own_Fin p e below _ (T1.setTop (mkF m 29 #[.val (.int p0), .val (.int (11 : Int32)), .val (.ref w_IS_NOT_NULL), .unset, .unset] []))
  refine own_st (fun t k => XS.iconst X1.here hx rfl (hb hby at_29) k) ?_
  show own_Fin p e below _ (T1.setTop (mkF m 30 #[.val (.int p0), .val (.int (11 : Int32)), .val (.ref w_IS_NOT_NULL), .unset, .unset] [(.int (0 : Int32))]))
  refine own_st (fun t k => XS.istoreN X1.here hx rfl (hb hby at_30) rfl (l' := #[.val (.int p0), .val (.int (11 : Int32)), .val (.ref w_IS_NOT_NULL), .val (.int (0 : Int32)), .unset]) rfl k) ?_
  show own_Fin p e below _ (T1.setTop (mkF m 31 #[.val (.int p0), .val (.int (11 : Int32)), .val (.ref w_IS_NOT_NULL), .val (.int (0 : Int32)), .unset] []))
  refine own_st (fun t k => XS.aloadN X1.here hx rfl (hb hby at_31) rfl rfl k) ?_
  show own_Fin p e below _ (T1.setTop (mkF m 32 #[.val (.int p0), .val (.int (11 : Int32)), .val (.ref w_IS_NOT_NULL), .val (.int (0 : Int32)), .unset] [(.ref w_IS_NOT_NULL)]))
  obtain ⟨cq2, kq2, q2a, q2b, q2c⟩ := isOf hZ e1 E_IS_NOT_NULL
  obtain ⟨_, _, ⟨T2, L2, k2, n2⟩, -, X2, ⟨Lc2, hQ2, l2, y2, z2⟩, st2⟩ := X1.virtualBack hx (y := (⟨"com/example/rootward/rootward/jdbc/Condition$Operator", "testsTruth", "()Z"⟩ : MethodName)) (z := (⟨"com/example/rootward/rootward/jdbc/Condition$Operator", "testsTruth", "()Z"⟩ : MethodName)) hown (mvT hZ (hw _ (List.mem_of_getElem? (i := 8) rfl))) (mvT hZ (hw _ (List.mem_of_getElem? (i := 9) rfl))) (notFace_of_selects (args := #[]) (mvT hZ (hw _ (List.mem_of_getElem? (i := 11) rfl)))) (mvT hZ (hw _ (List.mem_of_getElem? (i := 11) rfl))) (mvT hZ (hw _ (List.mem_of_getElem? (i := 10) rfl))) (by decide) (backOf (W := 0) (rm2_w_IS_NOT_NULL l Z a0 hw [] w_EQUAL w_IS_TRUE w_IS_FALSE w_GREATER_THAN_OR_EQUAL w_IS_NULL w_IS_NOT_NULL w_STARTING_WITH w_NOT_BETWEEN w_GREATER_THAN w_IN w_NOT_EQUAL w_NOT_IN w_ENDING_WITH w_BETWEEN w_NOT_CONTAINING w_CONTAINING w_LIKE w_LESS_THAN_OR_EQUAL w_LESS_THAN w_NOT_LIKE h0 n0 PN) hZ (hw _ (List.mem_of_getElem? (i := 12) rfl)) (hw _ (List.mem_of_getElem? (i := 6) rfl)) (by decide) (by decide)) q2a q2c (g := (mkF m 32 #[.val (.int p0), .val (.int (11 : Int32)), .val (.ref w_IS_NOT_NULL), .val (.int (0 : Int32)), .unset] [(.ref w_IS_NOT_NULL)])) rfl (by rw [hml]; rfl) (Steps.refl _) (argsL := []) (rest := []) (lenOf pd___Z rfl) rfl (by show 2 * 0 + _ ≤ _; exact Nat.le_of_eq rfl) (hb hby at_32) (fun _ _ => ⟨rfl, e1, (by decide : 0 + 0 ≤ _), (by decide : 0 + 0 ≤ _)⟩)
  dsimp only [Pt.U, Pt.locs, Pt.cells, Pt.slots] at X2 l2 y2 z2 st2 hQ2
  subst l2 y2 z2
  obtain ⟨rfl, N2q, e2⟩ := hQ2
  have N2 := Fr.app N1 N2q
  refine own_tr st2 ?_
  show own_Fin p e below _ (T2.setTop (mkF m 35 #[.val (.int p0), .val (.int (11 : Int32)), .val (.ref w_IS_NOT_NULL), .val (.int (0 : Int32)), .unset] [(.int (0 : Int32))]))
  refine own_st (fun t k => XS.istore X2.here hx rfl (hb hby at_35) rfl (l' := #[.val (.int p0), .val (.int (11 : Int32)), .val (.ref w_IS_NOT_NULL), .val (.int (0 : Int32)), .val (.int (0 : Int32))]) rfl k) ?_
  show own_Fin p e below _ (T2.setTop (mkF m 37 #[.val (.int p0), .val (.int (11 : Int32)), .val (.ref w_IS_NOT_NULL), .val (.int (0 : Int32)), .val (.int (0 : Int32))] []))
  refine own_st (fun t k => XS.iload X2.here hx rfl (hb hby at_37) rfl k) ?_
  show own_Fin p e below _ (T2.setTop (mkF m 39 #[.val (.int p0), .val (.int (11 : Int32)), .val (.ref w_IS_NOT_NULL), .val (.int (0 : Int32)), .val (.int (0 : Int32))] [(.int (0 : Int32))]))
  refine own_st (fun t k => XS.iloadN X2.here hx rfl (hb hby at_39) rfl k) ?_
  show own_Fin p e below _ (T2.setTop (mkF m 40 #[.val (.int p0), .val (.int (11 : Int32)), .val (.ref w_IS_NOT_NULL), .val (.int (0 : Int32)), .val (.int (0 : Int32))] [(.int (0 : Int32)), (.int (0 : Int32))]))
  refine own_st (fun t k => XS.icmpYes X2.here hx rfl (pc0 := 40) (pc' := 45) rfl (hb hby at_40) rfl (by decide) (by decide) (by decide) k) ?_
  show own_Fin p e below _ (T2.setTop (mkF m 45 #[.val (.int p0), .val (.int (11 : Int32)), .val (.ref w_IS_NOT_NULL), .val (.int (0 : Int32)), .val (.int (0 : Int32))] []))
  refine own_st (fun t k => XS.iload X2.here hx rfl (hb hby at_45) rfl k) ?_
  show own_Fin p e below _ (T2.setTop (mkF m 47 #[.val (.int p0), .val (.int (11 : Int32)), .val (.ref w_IS_NOT_NULL), .val (.int (0 : Int32)), .val (.int (0 : Int32))] [(.int (0 : Int32))]))
  refine own_st (fun t k => XS.ifYes X2.here hx rfl (pc0 := 47) (pc' := 73) rfl (hb hby at_47) rfl (by decide) (by decide) (by decide) k) ?_
  show own_Fin p e below _ (T2.setTop (mkF m 73 #[.val (.int p0), .val (.int (11 : Int32)), .val (.ref w_IS_NOT_NULL), .val (.int (0 : Int32)), .val (.int (0 : Int32))] []))
  refine own_st (fun t k => XS.iconst X2.here hx rfl (hb hby at_73) k) ?_
  show own_Fin p e below _ (T2.setTop (mkF m 74 #[.val (.int p0), .val (.int (11 : Int32)), .val (.ref w_IS_NOT_NULL), .val (.int (0 : Int32)), .val (.int (0 : Int32))] [(.int (1 : Int32))]))
  obtain ⟨fs, hr, hrun, hended, hW, hsame⟩ := X2.leave (v := some (.int (1 : Int32))) (fun h => by rw [Bd.returns] at h; cases h)
  exact ⟨_, _, retN X2 hx (t := .boolean) Bd.returns (by simp) (hb hby at_74) hr, hrun, hended, _, _, rfl, ⟨rfl, N2, e2⟩, ⟨_, rfl⟩, hW, hsame.mono (by decide) (by decide)⟩
theorem d1_140 : decode method_2_code 140 = .ok (.getstatic 46, 3) := by decide +kernel
theorem d1_143 : decode method_2_code 143 = .ok (.areturn, 1) := by decide +kernel
set_option maxRecDepth 65536 in
set_option maxHeartbeats 40000000 in
theorem rm1_12 (l : Launch) (Z : State) (a0 : Array Value) (hw : ∀ d ∈ tables_1, d.before a0 Z = true) (ws : List Jvm.Cond) (w_EQUAL w_IS_TRUE w_IS_FALSE w_GREATER_THAN_OR_EQUAL w_IS_NULL w_IS_NOT_NULL w_STARTING_WITH w_NOT_BETWEEN w_GREATER_THAN w_IN w_NOT_EQUAL w_NOT_IN w_ENDING_WITH w_BETWEEN w_NOT_CONTAINING w_CONTAINING w_LIKE w_LESS_THAN_OR_EQUAL w_LESS_THAN w_NOT_LIKE : Addr) (h0 : Heap) (n0 : Nat) (PN : own_Pins Z h0 w_EQUAL w_IS_TRUE w_IS_FALSE w_GREATER_THAN_OR_EQUAL w_IS_NULL w_IS_NOT_NULL w_STARTING_WITH w_NOT_BETWEEN w_GREATER_THAN w_IN w_NOT_EQUAL w_NOT_IN w_ENDING_WITH w_BETWEEN w_NOT_CONTAINING w_CONTAINING w_LIKE w_LESS_THAN_OR_EQUAL w_LESS_THAN w_NOT_LIKE) :
    MetFree l (⟨"com/example/rootward/rootward/jdbc/OperatorTestsTruthPinLaw", "pick", "(I)Lcom/example/rootward/rootward/jdbc/Condition$Operator;"⟩ : MethodName) (head1 (Jvm.Cond.code (⟨"com/example/rootward/rootward/jdbc/OperatorTestsTruthPinLaw", "pick", "(I)Lcom/example/rootward/rootward/jdbc/Condition$Operator;"⟩ : MethodName) method_2_code 1 (some (.object "com/example/rootward/rootward/jdbc/Condition$Operator")) :: ws) ({ frames := 0, cells := 0, slots := 0, locals := 0 } : Room)) (fun a U => a = #[(.int (12 : Int32))] ∧ Z.Warmed39 U.vm ∧ U.heap = h0) (fun _ _ _ _ _ => True) (fun _ U o U' => ∃ v L, o = .returned v ∧ own_Q h0 n0 (some (.ref w_LIKE)) v U'.heap L ∧ FrameEnd U o U' L ({ frames := 0, cells := 0, slots := 0, locals := 0 } : Room).cells ({ frames := 0, cells := 0, slots := 0, locals := 0 } : Room).slots) := by
  have S_LIKE : Sta Z h0 "com/example/rootward/rootward/jdbc/Condition$Operator" "LIKE" "Lcom/example/rootward/rootward/jdbc/Condition$Operator;" (.ref w_LIKE) := PN.2.2.2.2.2.2.2.2.2.2.2.2.2.2.2.2.2.2.2.2.2.2.2.2.2.2.2.2.2.2.2.2.1
  refine MetFree.of_bodySF (plainFor_of_name pn_com_example_rootward_rootward_jdbc_OperatorTestsTruthPinLaw) hisR ?_
  intro p e s m args below meth c s₁ Bd hml0 hP hK
  obtain ⟨rfl, hZ, hh⟩ := hP
  have hx := Bd.exec
  have hby := Bd.bytes
  have hml : c.maxLocals = 1 := hml0
  have hown : s.vm.findClass "com/example/rootward/rootward/jdbc/OperatorTestsTruthPinLaw" = some m.cls := findClass_of_methodNamed Bd.named
  have X0 : Stand p l e ({ frames := 0, cells := 0, slots := 0, locals := 0 } : Room) s m #[(.int (12 : Int32))] below meth c s₁ [] 0 0 := Stand.of_body Bd
  have e0 : s₁.heap = h0 := by rw [← hh, Bd.state]; rfl
  have N0 := Fr.nil n0
  refine (?_ : own_Fin p e below _ _)
  refine own_st (fun t k => castTop (ef_1_I m (12 : Int32)) k) ?_
  show own_Fin p e below _ (s₁.setTop (mkF m 0 #[.val (.int (12 : Int32))] []))
  refine own_st (fun t k => XS.iloadN X0.here hx rfl (hb hby d1_0) rfl k) ?_
  show own_Fin p e below _ (s₁.setTop (mkF m 1 #[.val (.int (12 : Int32))] [(.int (12 : Int32))]))
  refine own_st (fun t k => XS.tswIn X0.here hx rfl (pc0 := 1) (pc' := 140) rfl (hb hby d1_1) rfl (by decide) (o := 139) (by decide) (by decide) (by decide) k) ?_
  show own_Fin p e below _ (s₁.setTop (mkF m 140 #[.val (.int (12 : Int32))] []))
  obtain ⟨T1, X1, e1, st1⟩ := getS2 X0 hx hZ hown (host := "") (Or.inl (hw _ (List.mem_of_getElem? (i := 64) rfl))) Via.refl e0 S_LIKE (g := (mkF m 140 #[.val (.int (12 : Int32))] [])) rfl (hb hby d1_140)
  refine own_st st1 ?_
  show own_Fin p e below _ (T1.setTop (mkF m 143 #[.val (.int (12 : Int32))] [(.ref w_LIKE)]))
  obtain ⟨fs, hr, hrun, hended, hW, hsame⟩ := X1.leave (v := some (.ref w_LIKE)) (fun h => by rw [Bd.returns] at h; cases h)
  exact ⟨_, _, retOut X1 hx (t := (.object "com/example/rootward/rootward/jdbc/Condition$Operator")) Bd.returns rfl (Or.inr (Or.inr (Or.inr (Or.inr ⟨rfl, rfl, rfl⟩)))) (hb hby d1_143) hr, hrun, hended, _, _, rfl, ⟨rfl, N0, e1⟩, ⟨_, rfl⟩, hW, hsame.mono (by decide) (by decide)⟩
set_option maxRecDepth 65536 in
set_option maxHeartbeats 40000000 in
theorem rm2_w_LIKE (l : Launch) (Z : State) (a0 : Array Value) (hw : ∀ d ∈ tables_1, d.before a0 Z = true) (ws : List Jvm.Cond) (w_EQUAL w_IS_TRUE w_IS_FALSE w_GREATER_THAN_OR_EQUAL w_IS_NULL w_IS_NOT_NULL w_STARTING_WITH w_NOT_BETWEEN w_GREATER_THAN w_IN w_NOT_EQUAL w_NOT_IN w_ENDING_WITH w_BETWEEN w_NOT_CONTAINING w_CONTAINING w_LIKE w_LESS_THAN_OR_EQUAL w_LESS_THAN w_NOT_LIKE : Addr) (h0 : Heap) (n0 : Nat) (PN : own_Pins Z h0 w_EQUAL w_IS_TRUE w_IS_FALSE w_GREATER_THAN_OR_EQUAL w_IS_NULL w_IS_NOT_NULL w_STARTING_WITH w_NOT_BETWEEN w_GREATER_THAN w_IN w_NOT_EQUAL w_NOT_IN w_ENDING_WITH w_BETWEEN w_NOT_CONTAINING w_CONTAINING w_LIKE w_LESS_THAN_OR_EQUAL w_LESS_THAN w_NOT_LIKE) :
    MetFree l (⟨"com/example/rootward/rootward/jdbc/Condition$Operator", "testsTruth", "()Z"⟩ : MethodName) (head1 (Jvm.Cond.code (⟨"com/example/rootward/rootward/jdbc/Condition$Operator", "testsTruth", "()Z"⟩ : MethodName) prog_32_method_8_code 1 (some .boolean) :: ws) ({ frames := 0, cells := 0, slots := 0, locals := 0 } : Room)) (fun a U => a = #[(.ref w_LIKE)] ∧ Z.Warmed39 U.vm ∧ U.heap = h0) (fun _ _ _ _ _ => True) (fun _ U o U' => ∃ v L, o = .returned v ∧ own_Q h0 n0 (some (.int (0 : Int32))) v U'.heap L ∧ FrameEnd U o U' L ({ frames := 0, cells := 0, slots := 0, locals := 0 } : Room).cells ({ frames := 0, cells := 0, slots := 0, locals := 0 } : Room).slots) := by
  have S_IS_TRUE : Sta Z h0 "com/example/rootward/rootward/jdbc/Condition$Operator" "IS_TRUE" "Lcom/example/rootward/rootward/jdbc/Condition$Operator;" (.ref w_IS_TRUE) := PN.2.2.1
  have S_IS_FALSE : Sta Z h0 "com/example/rootward/rootward/jdbc/Condition$Operator" "IS_FALSE" "Lcom/example/rootward/rootward/jdbc/Condition$Operator;" (.ref w_IS_FALSE) := PN.2.2.2.2.1
  have F_IS_TRUE_ordinal : Fld Z h0 w_IS_TRUE "java/lang/Enum" "ordinal" "I" (.int 18) := PN.2.2.2.2.2.2.2.2.2.2.2.2.2.2.2.2.2.2.2.2.2.2.2.2.2.2.2.2.2.2.2.2.2.2.2.2.2.2.2.2.2.1
  have F_IS_FALSE_ordinal : Fld Z h0 w_IS_FALSE "java/lang/Enum" "ordinal" "I" (.int 19) := PN.2.2.2.2.2.2.2.2.2.2.2.2.2.2.2.2.2.2.2.2.2.2.2.2.2.2.2.2.2.2.2.2.2.2.2.2.2.2.2.2.2.2.1
  have F_LIKE_ordinal : Fld Z h0 w_LIKE "java/lang/Enum" "ordinal" "I" (.int 12) := PN.2.2.2.2.2.2.2.2.2.2.2.2.2.2.2.2.2.2.2.2.2.2.2.2.2.2.2.2.2.2.2.2.2.2.2.2.2.2.2.2.2.2.2.2.2.2.2.2.2.2.2.2.2.2.2.2.2.2.1
  refine MetFree.of_bodySF (plainFor_of_name pn_com_example_rootward_rootward_jdbc_Condition_Operator) hisR ?_
  intro p e s m args below meth c s₁ Bd hml0 hP hK
  obtain ⟨rfl, hZ, hh⟩ := hP
  have hx := Bd.exec
  have hby := Bd.bytes
  have hml : c.maxLocals = 1 := hml0
  have hown : s.vm.findClass "com/example/rootward/rootward/jdbc/Condition$Operator" = some m.cls := findClass_of_methodNamed Bd.named
  have X0 : Stand p l e ({ frames := 0, cells := 0, slots := 0, locals := 0 } : Room) s m #[(.ref w_LIKE)] below meth c s₁ [] 0 0 := Stand.of_body Bd
  have e0 : s₁.heap = h0 := by rw [← hh, Bd.state]; rfl
  have N0 := Fr.nil n0
  refine (?_ : own_Fin p e below _ _)
  refine own_st (fun t k => castTop (ef_2_R m w_LIKE) k) ?_
  show own_Fin p e below _ (s₁.setTop (mkF m 0 #[.val (.ref w_LIKE)] []))
  refine own_st (fun t k => XS.aloadN X0.here hx rfl (hb hby d2_0) rfl rfl k) ?_
  show own_Fin p e below _ (s₁.setTop (mkF m 1 #[.val (.ref w_LIKE)] [(.ref w_LIKE)]))
  obtain ⟨T1, X1, e1, st1⟩ := getS2 X0 hx hZ hown (host := "") (Or.inl (hw _ (List.mem_of_getElem? (i := 13) rfl))) Via.refl e0 S_IS_TRUE (g := (mkF m 1 #[.val (.ref w_LIKE)] [(.ref w_LIKE)])) rfl (hb hby d2_1)
  refine own_st st1 ?_
  show own_Fin p e below _ (T1.setTop (mkF m 4 #[.val (.ref w_LIKE)] [(.ref w_IS_TRUE), (.ref w_LIKE)]))
  refine own_st (fun t k => Jvm.RoadKit.acmp (g := (mkF m 4 #[.val (.ref w_LIKE)] [(.ref w_IS_TRUE), (.ref w_LIKE)])) X1 hx rfl rfl rfl (pc0 := 4) (pc' := 7) (same := false) rfl (hb hby d2_4) rfl (decide_eq_false fun q => (Fld.ne F_LIKE_ordinal F_IS_TRUE_ordinal (by simp)) (Value.ref.inj q)) (by decide) (by decide) k) ?_
  show own_Fin p e below _ (T1.setTop (mkF m 7 #[.val (.ref w_LIKE)] []))
  refine own_st (fun t k => XS.aloadN X1.here hx rfl (hb hby d2_7) rfl rfl k) ?_
  show own_Fin p e below _ (T1.setTop (mkF m 8 #[.val (.ref w_LIKE)] [(.ref w_LIKE)]))
  obtain ⟨T2, X2, e2, st2⟩ := getS2 X1 hx hZ hown (host := "") (Or.inl (hw _ (List.mem_of_getElem? (i := 15) rfl))) Via.refl e1 S_IS_FALSE (g := (mkF m 8 #[.val (.ref w_LIKE)] [(.ref w_LIKE)])) rfl (hb hby d2_8)
  refine own_st st2 ?_
  show own_Fin p e below _ (T2.setTop (mkF m 11 #[.val (.ref w_LIKE)] [(.ref w_IS_FALSE), (.ref w_LIKE)]))
  refine own_st (fun t k => Jvm.RoadKit.acmp (g := (mkF m 11 #[.val (.ref w_LIKE)] [(.ref w_IS_FALSE), (.ref w_LIKE)])) X2 hx rfl rfl rfl (pc0 := 11) (pc' := 18) (same := false) rfl (hb hby d2_11) rfl (decide_eq_false fun q => (Fld.ne F_LIKE_ordinal F_IS_FALSE_ordinal (by simp)) (Value.ref.inj q)) (by decide) (by decide) k) ?_
  show own_Fin p e below _ (T2.setTop (mkF m 18 #[.val (.ref w_LIKE)] []))
  refine own_st (fun t k => XS.iconst X2.here hx rfl (hb hby d2_18) k) ?_
  show own_Fin p e below _ (T2.setTop (mkF m 19 #[.val (.ref w_LIKE)] [(.int (0 : Int32))]))
  obtain ⟨fs, hr, hrun, hended, hW, hsame⟩ := X2.leave (v := some (.int (0 : Int32))) (fun h => by rw [Bd.returns] at h; cases h)
  exact ⟨_, _, retN X2 hx (t := .boolean) Bd.returns (by simp) (hb hby d2_19) hr, hrun, hended, _, _, rfl, ⟨rfl, N0, e2⟩, ⟨_, rfl⟩, hW, hsame.mono (by decide) (by decide)⟩
set_option maxRecDepth 65536 in
set_option maxHeartbeats 40000000 in
theorem rm0_c12 (l : Launch) (Z : State) (a0 : Array Value) (hw : ∀ d ∈ tables_1, d.before a0 Z = true) (ws : List Jvm.Cond) (w_EQUAL w_IS_TRUE w_IS_FALSE w_GREATER_THAN_OR_EQUAL w_IS_NULL w_IS_NOT_NULL w_STARTING_WITH w_NOT_BETWEEN w_GREATER_THAN w_IN w_NOT_EQUAL w_NOT_IN w_ENDING_WITH w_BETWEEN w_NOT_CONTAINING w_CONTAINING w_LIKE w_LESS_THAN_OR_EQUAL w_LESS_THAN w_NOT_LIKE : Addr) (p0 : Int32) (h0 : Heap) (n0 : Nat) (PN : own_Pins Z h0 w_EQUAL w_IS_TRUE w_IS_FALSE w_GREATER_THAN_OR_EQUAL w_IS_NULL w_IS_NOT_NULL w_STARTING_WITH w_NOT_BETWEEN w_GREATER_THAN w_IN w_NOT_EQUAL w_NOT_IN w_ENDING_WITH w_BETWEEN w_NOT_CONTAINING w_CONTAINING w_LIKE w_LESS_THAN_OR_EQUAL w_LESS_THAN w_NOT_LIKE) (q0 : ((p0 &&& (2147483647 : Int32)) % (20 : Int32)) = (12 : Int32)) :
    MetFree l x (head1 (Jvm.Cond.code x code maxLocals ret :: ws) room_1) (fun a U => a = #[(.int p0)] ∧ Z.Warmed39 U.vm ∧ U.heap = h0) (fun _ _ _ _ _ => True) (fun _ U o U' => ∃ v L, o = .returned v ∧ own_Q h0 n0 (some (.int (1 : Int32))) v U'.heap L ∧ FrameEnd U o U' L room_1.cells room_1.slots) := by
  have E_LIKE : Exa Z h0 w_LIKE "com/example/rootward/rootward/jdbc/Condition$Operator" := PN.2.2.2.2.2.2.2.2.2.2.2.2.2.2.2.2.2.2.2.2.2.2.2.2.2.2.2.2.2.2.2.2.2.1
  refine MetFree.of_bodySF (plainFor_of_name pn_com_example_rootward_rootward_jdbc_OperatorTestsTruthPinLaw) hisR ?_
  intro p e s m args below meth c s₁ Bd hml0 hP hK
  obtain ⟨rfl, hZ, hh⟩ := hP
  have hx := Bd.exec
  have hby := Bd.bytes
  have hml : c.maxLocals = 5 := hml0
  have hown : s.vm.findClass "com/example/rootward/rootward/jdbc/OperatorTestsTruthPinLaw" = some m.cls := findClass_of_methodNamed Bd.named
  have X0 : Stand p l e room_1 s m #[(.int p0)] below meth c s₁ [] 0 0 := Stand.of_body Bd
  have e0 : s₁.heap = h0 := by rw [← hh, Bd.state]; rfl
  have N0 := Fr.nil n0
  refine (?_ : own_Fin p e below _ _)
  refine own_st (fun t k => castTop (ef_0_I m p0) k) ?_
  show own_Fin p e below _ (s₁.setTop (mkF m 0 #[.val (.int p0), .unset, .unset, .unset, .unset] []))
  refine own_st (fun t k => XS.iloadN X0.here hx rfl (hb hby at_0) rfl k) ?_
  show own_Fin p e below _ (s₁.setTop (mkF m 1 #[.val (.int p0), .unset, .unset, .unset, .unset] [(.int p0)]))
  refine own_st (fun t k => X0.ldcI hx hown (mvT hZ (hw _ (List.mem_of_getElem? (i := 0) rfl))) rfl (hb hby at_1) k) ?_
  show own_Fin p e below _ (s₁.setTop (mkF m 3 #[.val (.int p0), .unset, .unset, .unset, .unset] [(.int (2147483647 : Int32)), (.int p0)]))
  refine own_st (fun t k => XS.iand X0.here hx rfl (hb hby at_3) rfl k) ?_
  show own_Fin p e below _ (s₁.setTop (mkF m 4 #[.val (.int p0), .unset, .unset, .unset, .unset] [(.int (p0 &&& (2147483647 : Int32)))]))
  refine own_st (fun t k => XS.bipush X0.here hx rfl (hb hby at_4) k) ?_
  show own_Fin p e below _ (s₁.setTop (mkF m 6 #[.val (.int p0), .unset, .unset, .unset, .unset] [(.int (20 : Int32)), (.int (p0 &&& (2147483647 : Int32)))]))
  refine own_st (fun t k => iremM X0 hx rfl (hb hby at_6) rfl (by decide) k) ?_
  show own_Fin p e below _ (s₁.setTop (mkF m 7 #[.val (.int p0), .unset, .unset, .unset, .unset] [(.int ((p0 &&& (2147483647 : Int32)) % (20 : Int32)))]))
  rw [q0]
  show own_Fin p e below _ (s₁.setTop (mkF m 7 #[.val (.int p0), .unset, .unset, .unset, .unset] [(.int (12 : Int32))]))
  refine own_st (fun t k => XS.istoreN X0.here hx rfl (hb hby at_7) rfl (l' := #[.val (.int p0), .val (.int (12 : Int32)), .unset, .unset, .unset]) rfl k) ?_
  show own_Fin p e below _ (s₁.setTop (mkF m 8 #[.val (.int p0), .val (.int (12 : Int32)), .unset, .unset, .unset] []))
  refine own_st (fun t k => XS.iloadN X0.here hx rfl (hb hby at_8) rfl k) ?_
  show own_Fin p e below _ (s₁.setTop (mkF m 9 #[.val (.int p0), .val (.int (12 : Int32)), .unset, .unset, .unset] [(.int (12 : Int32))]))
  obtain ⟨_, _, ⟨T1, L1, k1, n1⟩, -, X1, ⟨Lc1, hQ1, l1, y1, z1⟩, st1⟩ := Jvm.LawKit.callS X0 hx (y := (⟨"com/example/rootward/rootward/jdbc/OperatorTestsTruthPinLaw", "pick", "(I)Lcom/example/rootward/rootward/jdbc/Condition$Operator;"⟩ : MethodName)) hown (mvT hZ (hw _ (List.mem_of_getElem? (i := 1) rfl))) (mvT hZ (hw _ (List.mem_of_getElem? (i := 2) rfl))) (mvT hZ (hw _ (List.mem_of_getElem? (i := 3) rfl))) (mvT hZ (hw _ (List.mem_of_getElem? (i := 4) rfl))) (by decide) (backOf (W := 0) (rm1_12 l Z a0 hw [] w_EQUAL w_IS_TRUE w_IS_FALSE w_GREATER_THAN_OR_EQUAL w_IS_NULL w_IS_NOT_NULL w_STARTING_WITH w_NOT_BETWEEN w_GREATER_THAN w_IN w_NOT_EQUAL w_NOT_IN w_ENDING_WITH w_BETWEEN w_NOT_CONTAINING w_CONTAINING w_LIKE w_LESS_THAN_OR_EQUAL w_LESS_THAN w_NOT_LIKE h0 n0 PN) hZ (hw _ (List.mem_of_getElem? (i := 4) rfl)) (hw _ (List.mem_of_getElem? (i := 3) rfl)) (by decide) (by decide)) (g := (mkF m 9 #[.val (.int p0), .val (.int (12 : Int32)), .unset, .unset, .unset] [(.int (12 : Int32))])) rfl (by rw [hml]; rfl) (argsL := [(.int (12 : Int32))]) (rest := []) (lenOf pd__I_Lcom_example_rootward_rootward_jdbc_Condition_Operator_ rfl) rfl (by show 2 * 0 + _ ≤ _; exact Nat.le_of_eq rfl) (hb hby at_9) (fun _ _ => ⟨rfl, e0, (by decide : 0 + 0 ≤ _), (by decide : 0 + 0 ≤ _)⟩)
  dsimp only [Pt.U, Pt.locs, Pt.cells, Pt.slots] at X1 l1 y1 z1 st1 hQ1
  subst l1 y1 z1
  obtain ⟨rfl, N1q, e1⟩ := hQ1
  have N1 := Fr.app N0 N1q
  refine own_st st1 ?_
  show own_Fin p e below _ (T1.setTop (mkF m 12 #[.val (.int p0), .val (.int (12 : Int32)), .unset, .unset, .unset] [(.ref w_LIKE)]))
  refine own_st (fun t k => XS.astoreN X1.here hx rfl (hb hby at_12) rfl rfl (l' := #[.val (.int p0), .val (.int (12 : Int32)), .val (.ref w_LIKE), .unset, .unset]) rfl k) ?_
  show own_Fin p e below _ (T1.setTop (mkF m 13 #[.val (.int p0), .val (.int (12 : Int32)), .val (.ref w_LIKE), .unset, .unset] []))
  refine own_st (fun t k => XS.iloadN X1.here hx rfl (hb hby at_13) rfl k) ?_
  show own_Fin p e below _ (T1.setTop (mkF m 14 #[.val (.int p0), .val (.int (12 : Int32)), .val (.ref w_LIKE), .unset, .unset] [(.int (12 : Int32))]))
  refine own_st (fun t k => XS.bipush X1.here hx rfl (hb hby at_14) k) ?_
  show own_Fin p e below _ (T1.setTop (mkF m 16 #[.val (.int p0), .val (.int (12 : Int32)), .val (.ref w_LIKE), .unset, .unset] [(.int (18 : Int32)), (.int (12 : Int32))]))
  refine own_st (fun t k => XS.icmpNo X1.here hx rfl (hb hby at_16) rfl (by decide) k) ?_
  show own_Fin p e below _ (T1.setTop (mkF m 19 #[.val (.int p0), .val (.int (12 : Int32)), .val (.ref w_LIKE), .unset, .unset] []))
  refine own_st (fun t k => XS.iloadN X1.here hx rfl (hb hby at_19) rfl k) ?_
  show own_Fin p e below _ (T1.setTop (mkF m 20 #[.val (.int p0), .val (.int (12 : Int32)), .val (.ref w_LIKE), .unset, .unset] [(.int (12 : Int32))]))
  refine own_st (fun t k => XS.bipush X1.here hx rfl (hb hby at_20) k) ?_
  show own_Fin p e below _ (T1.setTop (mkF m 22 #[.val (.int p0), .val (.int (12 : Int32)), .val (.ref w_LIKE), .unset, .unset] [(.int (19 : Int32)), (.int (12 : Int32))]))
  refine own_st (fun t k => XS.icmpYes X1.here hx rfl (pc0 := 22) (pc' := 29) rfl (hb hby at_22) rfl (by decide) (by decide) (by decide) k) ?_
  show own_Fin p e below _ (T1.setTop (mkF m 29 #[.val (.int p0), .val (.int (12 : Int32)), .val (.ref w_LIKE), .unset, .unset] []))
  refine own_st (fun t k => XS.iconst X1.here hx rfl (hb hby at_29) k) ?_
  show own_Fin p e below _ (T1.setTop (mkF m 30 #[.val (.int p0), .val (.int (12 : Int32)), .val (.ref w_LIKE), .unset, .unset] [(.int (0 : Int32))]))
  refine own_st (fun t k => XS.istoreN X1.here hx rfl (hb hby at_30) rfl (l' := #[.val (.int p0), .val (.int (12 : Int32)), .val (.ref w_LIKE), .val (.int (0 : Int32)), .unset]) rfl k) ?_
  show own_Fin p e below _ (T1.setTop (mkF m 31 #[.val (.int p0), .val (.int (12 : Int32)), .val (.ref w_LIKE), .val (.int (0 : Int32)), .unset] []))
  refine own_st (fun t k => XS.aloadN X1.here hx rfl (hb hby at_31) rfl rfl k) ?_
  show own_Fin p e below _ (T1.setTop (mkF m 32 #[.val (.int p0), .val (.int (12 : Int32)), .val (.ref w_LIKE), .val (.int (0 : Int32)), .unset] [(.ref w_LIKE)]))
  obtain ⟨cq2, kq2, q2a, q2b, q2c⟩ := isOf hZ e1 E_LIKE
  obtain ⟨_, _, ⟨T2, L2, k2, n2⟩, -, X2, ⟨Lc2, hQ2, l2, y2, z2⟩, st2⟩ := X1.virtualBack hx (y := (⟨"com/example/rootward/rootward/jdbc/Condition$Operator", "testsTruth", "()Z"⟩ : MethodName)) (z := (⟨"com/example/rootward/rootward/jdbc/Condition$Operator", "testsTruth", "()Z"⟩ : MethodName)) hown (mvT hZ (hw _ (List.mem_of_getElem? (i := 8) rfl))) (mvT hZ (hw _ (List.mem_of_getElem? (i := 9) rfl))) (notFace_of_selects (args := #[]) (mvT hZ (hw _ (List.mem_of_getElem? (i := 11) rfl)))) (mvT hZ (hw _ (List.mem_of_getElem? (i := 11) rfl))) (mvT hZ (hw _ (List.mem_of_getElem? (i := 10) rfl))) (by decide) (backOf (W := 0) (rm2_w_LIKE l Z a0 hw [] w_EQUAL w_IS_TRUE w_IS_FALSE w_GREATER_THAN_OR_EQUAL w_IS_NULL w_IS_NOT_NULL w_STARTING_WITH w_NOT_BETWEEN w_GREATER_THAN w_IN w_NOT_EQUAL w_NOT_IN w_ENDING_WITH w_BETWEEN w_NOT_CONTAINING w_CONTAINING w_LIKE w_LESS_THAN_OR_EQUAL w_LESS_THAN w_NOT_LIKE h0 n0 PN) hZ (hw _ (List.mem_of_getElem? (i := 12) rfl)) (hw _ (List.mem_of_getElem? (i := 6) rfl)) (by decide) (by decide)) q2a q2c (g := (mkF m 32 #[.val (.int p0), .val (.int (12 : Int32)), .val (.ref w_LIKE), .val (.int (0 : Int32)), .unset] [(.ref w_LIKE)])) rfl (by rw [hml]; rfl) (Steps.refl _) (argsL := []) (rest := []) (lenOf pd___Z rfl) rfl (by show 2 * 0 + _ ≤ _; exact Nat.le_of_eq rfl) (hb hby at_32) (fun _ _ => ⟨rfl, e1, (by decide : 0 + 0 ≤ _), (by decide : 0 + 0 ≤ _)⟩)
  dsimp only [Pt.U, Pt.locs, Pt.cells, Pt.slots] at X2 l2 y2 z2 st2 hQ2
  subst l2 y2 z2
  obtain ⟨rfl, N2q, e2⟩ := hQ2
  have N2 := Fr.app N1 N2q
  refine own_tr st2 ?_
  show own_Fin p e below _ (T2.setTop (mkF m 35 #[.val (.int p0), .val (.int (12 : Int32)), .val (.ref w_LIKE), .val (.int (0 : Int32)), .unset] [(.int (0 : Int32))]))
  refine own_st (fun t k => XS.istore X2.here hx rfl (hb hby at_35) rfl (l' := #[.val (.int p0), .val (.int (12 : Int32)), .val (.ref w_LIKE), .val (.int (0 : Int32)), .val (.int (0 : Int32))]) rfl k) ?_
  show own_Fin p e below _ (T2.setTop (mkF m 37 #[.val (.int p0), .val (.int (12 : Int32)), .val (.ref w_LIKE), .val (.int (0 : Int32)), .val (.int (0 : Int32))] []))
  refine own_st (fun t k => XS.iload X2.here hx rfl (hb hby at_37) rfl k) ?_
  show own_Fin p e below _ (T2.setTop (mkF m 39 #[.val (.int p0), .val (.int (12 : Int32)), .val (.ref w_LIKE), .val (.int (0 : Int32)), .val (.int (0 : Int32))] [(.int (0 : Int32))]))
  refine own_st (fun t k => XS.iloadN X2.here hx rfl (hb hby at_39) rfl k) ?_
  show own_Fin p e below _ (T2.setTop (mkF m 40 #[.val (.int p0), .val (.int (12 : Int32)), .val (.ref w_LIKE), .val (.int (0 : Int32)), .val (.int (0 : Int32))] [(.int (0 : Int32)), (.int (0 : Int32))]))
  refine own_st (fun t k => XS.icmpYes X2.here hx rfl (pc0 := 40) (pc' := 45) rfl (hb hby at_40) rfl (by decide) (by decide) (by decide) k) ?_
  show own_Fin p e below _ (T2.setTop (mkF m 45 #[.val (.int p0), .val (.int (12 : Int32)), .val (.ref w_LIKE), .val (.int (0 : Int32)), .val (.int (0 : Int32))] []))
  refine own_st (fun t k => XS.iload X2.here hx rfl (hb hby at_45) rfl k) ?_
  show own_Fin p e below _ (T2.setTop (mkF m 47 #[.val (.int p0), .val (.int (12 : Int32)), .val (.ref w_LIKE), .val (.int (0 : Int32)), .val (.int (0 : Int32))] [(.int (0 : Int32))]))
  refine own_st (fun t k => XS.ifYes X2.here hx rfl (pc0 := 47) (pc' := 73) rfl (hb hby at_47) rfl (by decide) (by decide) (by decide) k) ?_
  show own_Fin p e below _ (T2.setTop (mkF m 73 #[.val (.int p0), .val (.int (12 : Int32)), .val (.ref w_LIKE), .val (.int (0 : Int32)), .val (.int (0 : Int32))] []))
  refine own_st (fun t k => XS.iconst X2.here hx rfl (hb hby at_73) k) ?_
  show own_Fin p e below _ (T2.setTop (mkF m 74 #[.val (.int p0), .val (.int (12 : Int32)), .val (.ref w_LIKE), .val (.int (0 : Int32)), .val (.int (0 : Int32))] [(.int (1 : Int32))]))
  obtain ⟨fs, hr, hrun, hended, hW, hsame⟩ := X2.leave (v := some (.int (1 : Int32))) (fun h => by rw [Bd.returns] at h; cases h)
  exact ⟨_, _, retN X2 hx (t := .boolean) Bd.returns (by simp) (hb hby at_74) hr, hrun, hended, _, _, rfl, ⟨rfl, N2, e2⟩, ⟨_, rfl⟩, hW, hsame.mono (by decide) (by decide)⟩
theorem d1_144 : decode method_2_code 144 = .ok (.getstatic 49, 3) := by decide +kernel
theorem d1_147 : decode method_2_code 147 = .ok (.areturn, 1) := by decide +kernel
set_option maxRecDepth 65536 in
set_option maxHeartbeats 40000000 in
theorem rm1_13 (l : Launch) (Z : State) (a0 : Array Value) (hw : ∀ d ∈ tables_1, d.before a0 Z = true) (ws : List Jvm.Cond) (w_EQUAL w_IS_TRUE w_IS_FALSE w_GREATER_THAN_OR_EQUAL w_IS_NULL w_IS_NOT_NULL w_STARTING_WITH w_NOT_BETWEEN w_GREATER_THAN w_IN w_NOT_EQUAL w_NOT_IN w_ENDING_WITH w_BETWEEN w_NOT_CONTAINING w_CONTAINING w_LIKE w_LESS_THAN_OR_EQUAL w_LESS_THAN w_NOT_LIKE : Addr) (h0 : Heap) (n0 : Nat) (PN : own_Pins Z h0 w_EQUAL w_IS_TRUE w_IS_FALSE w_GREATER_THAN_OR_EQUAL w_IS_NULL w_IS_NOT_NULL w_STARTING_WITH w_NOT_BETWEEN w_GREATER_THAN w_IN w_NOT_EQUAL w_NOT_IN w_ENDING_WITH w_BETWEEN w_NOT_CONTAINING w_CONTAINING w_LIKE w_LESS_THAN_OR_EQUAL w_LESS_THAN w_NOT_LIKE) :
    MetFree l (⟨"com/example/rootward/rootward/jdbc/OperatorTestsTruthPinLaw", "pick", "(I)Lcom/example/rootward/rootward/jdbc/Condition$Operator;"⟩ : MethodName) (head1 (Jvm.Cond.code (⟨"com/example/rootward/rootward/jdbc/OperatorTestsTruthPinLaw", "pick", "(I)Lcom/example/rootward/rootward/jdbc/Condition$Operator;"⟩ : MethodName) method_2_code 1 (some (.object "com/example/rootward/rootward/jdbc/Condition$Operator")) :: ws) ({ frames := 0, cells := 0, slots := 0, locals := 0 } : Room)) (fun a U => a = #[(.int (13 : Int32))] ∧ Z.Warmed39 U.vm ∧ U.heap = h0) (fun _ _ _ _ _ => True) (fun _ U o U' => ∃ v L, o = .returned v ∧ own_Q h0 n0 (some (.ref w_NOT_LIKE)) v U'.heap L ∧ FrameEnd U o U' L ({ frames := 0, cells := 0, slots := 0, locals := 0 } : Room).cells ({ frames := 0, cells := 0, slots := 0, locals := 0 } : Room).slots) := by
  have S_NOT_LIKE : Sta Z h0 "com/example/rootward/rootward/jdbc/Condition$Operator" "NOT_LIKE" "Lcom/example/rootward/rootward/jdbc/Condition$Operator;" (.ref w_NOT_LIKE) := PN.2.2.2.2.2.2.2.2.2.2.2.2.2.2.2.2.2.2.2.2.2.2.2.2.2.2.2.2.2.2.2.2.2.2.2.2.2.2.1
  refine MetFree.of_bodySF (plainFor_of_name pn_com_example_rootward_rootward_jdbc_OperatorTestsTruthPinLaw) hisR ?_
  intro p e s m args below meth c s₁ Bd hml0 hP hK
  obtain ⟨rfl, hZ, hh⟩ := hP
  have hx := Bd.exec
  have hby := Bd.bytes
  have hml : c.maxLocals = 1 := hml0
  have hown : s.vm.findClass "com/example/rootward/rootward/jdbc/OperatorTestsTruthPinLaw" = some m.cls := findClass_of_methodNamed Bd.named
  have X0 : Stand p l e ({ frames := 0, cells := 0, slots := 0, locals := 0 } : Room) s m #[(.int (13 : Int32))] below meth c s₁ [] 0 0 := Stand.of_body Bd
  have e0 : s₁.heap = h0 := by rw [← hh, Bd.state]; rfl
  have N0 := Fr.nil n0
  refine (?_ : own_Fin p e below _ _)
  refine own_st (fun t k => castTop (ef_1_I m (13 : Int32)) k) ?_
  show own_Fin p e below _ (s₁.setTop (mkF m 0 #[.val (.int (13 : Int32))] []))
  refine own_st (fun t k => XS.iloadN X0.here hx rfl (hb hby d1_0) rfl k) ?_
  show own_Fin p e below _ (s₁.setTop (mkF m 1 #[.val (.int (13 : Int32))] [(.int (13 : Int32))]))
  refine own_st (fun t k => XS.tswIn X0.here hx rfl (pc0 := 1) (pc' := 144) rfl (hb hby d1_1) rfl (by decide) (o := 143) (by decide) (by decide) (by decide) k) ?_
  show own_Fin p e below _ (s₁.setTop (mkF m 144 #[.val (.int (13 : Int32))] []))
  obtain ⟨T1, X1, e1, st1⟩ := getS2 X0 hx hZ hown (host := "") (Or.inl (hw _ (List.mem_of_getElem? (i := 71) rfl))) Via.refl e0 S_NOT_LIKE (g := (mkF m 144 #[.val (.int (13 : Int32))] [])) rfl (hb hby d1_144)
  refine own_st st1 ?_
  show own_Fin p e below _ (T1.setTop (mkF m 147 #[.val (.int (13 : Int32))] [(.ref w_NOT_LIKE)]))
  obtain ⟨fs, hr, hrun, hended, hW, hsame⟩ := X1.leave (v := some (.ref w_NOT_LIKE)) (fun h => by rw [Bd.returns] at h; cases h)
  exact ⟨_, _, retOut X1 hx (t := (.object "com/example/rootward/rootward/jdbc/Condition$Operator")) Bd.returns rfl (Or.inr (Or.inr (Or.inr (Or.inr ⟨rfl, rfl, rfl⟩)))) (hb hby d1_147) hr, hrun, hended, _, _, rfl, ⟨rfl, N0, e1⟩, ⟨_, rfl⟩, hW, hsame.mono (by decide) (by decide)⟩
set_option maxRecDepth 65536 in
set_option maxHeartbeats 40000000 in
theorem rm2_w_NOT_LIKE (l : Launch) (Z : State) (a0 : Array Value) (hw : ∀ d ∈ tables_1, d.before a0 Z = true) (ws : List Jvm.Cond) (w_EQUAL w_IS_TRUE w_IS_FALSE w_GREATER_THAN_OR_EQUAL w_IS_NULL w_IS_NOT_NULL w_STARTING_WITH w_NOT_BETWEEN w_GREATER_THAN w_IN w_NOT_EQUAL w_NOT_IN w_ENDING_WITH w_BETWEEN w_NOT_CONTAINING w_CONTAINING w_LIKE w_LESS_THAN_OR_EQUAL w_LESS_THAN w_NOT_LIKE : Addr) (h0 : Heap) (n0 : Nat) (PN : own_Pins Z h0 w_EQUAL w_IS_TRUE w_IS_FALSE w_GREATER_THAN_OR_EQUAL w_IS_NULL w_IS_NOT_NULL w_STARTING_WITH w_NOT_BETWEEN w_GREATER_THAN w_IN w_NOT_EQUAL w_NOT_IN w_ENDING_WITH w_BETWEEN w_NOT_CONTAINING w_CONTAINING w_LIKE w_LESS_THAN_OR_EQUAL w_LESS_THAN w_NOT_LIKE) :
    MetFree l (⟨"com/example/rootward/rootward/jdbc/Condition$Operator", "testsTruth", "()Z"⟩ : MethodName) (head1 (Jvm.Cond.code (⟨"com/example/rootward/rootward/jdbc/Condition$Operator", "testsTruth", "()Z"⟩ : MethodName) prog_32_method_8_code 1 (some .boolean) :: ws) ({ frames := 0, cells := 0, slots := 0, locals := 0 } : Room)) (fun a U => a = #[(.ref w_NOT_LIKE)] ∧ Z.Warmed39 U.vm ∧ U.heap = h0) (fun _ _ _ _ _ => True) (fun _ U o U' => ∃ v L, o = .returned v ∧ own_Q h0 n0 (some (.int (0 : Int32))) v U'.heap L ∧ FrameEnd U o U' L ({ frames := 0, cells := 0, slots := 0, locals := 0 } : Room).cells ({ frames := 0, cells := 0, slots := 0, locals := 0 } : Room).slots) := by
  have S_IS_TRUE : Sta Z h0 "com/example/rootward/rootward/jdbc/Condition$Operator" "IS_TRUE" "Lcom/example/rootward/rootward/jdbc/Condition$Operator;" (.ref w_IS_TRUE) := PN.2.2.1
  have S_IS_FALSE : Sta Z h0 "com/example/rootward/rootward/jdbc/Condition$Operator" "IS_FALSE" "Lcom/example/rootward/rootward/jdbc/Condition$Operator;" (.ref w_IS_FALSE) := PN.2.2.2.2.1
  have F_IS_TRUE_ordinal : Fld Z h0 w_IS_TRUE "java/lang/Enum" "ordinal" "I" (.int 18) := PN.2.2.2.2.2.2.2.2.2.2.2.2.2.2.2.2.2.2.2.2.2.2.2.2.2.2.2.2.2.2.2.2.2.2.2.2.2.2.2.2.2.1
  have F_IS_FALSE_ordinal : Fld Z h0 w_IS_FALSE "java/lang/Enum" "ordinal" "I" (.int 19) := PN.2.2.2.2.2.2.2.2.2.2.2.2.2.2.2.2.2.2.2.2.2.2.2.2.2.2.2.2.2.2.2.2.2.2.2.2.2.2.2.2.2.2.1
  have F_NOT_LIKE_ordinal : Fld Z h0 w_NOT_LIKE "java/lang/Enum" "ordinal" "I" (.int 13) := PN.2.2.2.2.2.2.2.2.2.2.2.2.2.2.2.2.2.2.2.2.2.2.2.2.2.2.2.2.2.2.2.2.2.2.2.2.2.2.2.2.2.2.2.2.2.2.2.2.2.2.2.2.2.2.2.2.2.2.2.2.2.1
  refine MetFree.of_bodySF (plainFor_of_name pn_com_example_rootward_rootward_jdbc_Condition_Operator) hisR ?_
  intro p e s m args below meth c s₁ Bd hml0 hP hK
  obtain ⟨rfl, hZ, hh⟩ := hP
  have hx := Bd.exec
  have hby := Bd.bytes
  have hml : c.maxLocals = 1 := hml0
  have hown : s.vm.findClass "com/example/rootward/rootward/jdbc/Condition$Operator" = some m.cls := findClass_of_methodNamed Bd.named
  have X0 : Stand p l e ({ frames := 0, cells := 0, slots := 0, locals := 0 } : Room) s m #[(.ref w_NOT_LIKE)] below meth c s₁ [] 0 0 := Stand.of_body Bd
  have e0 : s₁.heap = h0 := by rw [← hh, Bd.state]; rfl
  have N0 := Fr.nil n0
  refine (?_ : own_Fin p e below _ _)
  refine own_st (fun t k => castTop (ef_2_R m w_NOT_LIKE) k) ?_
  show own_Fin p e below _ (s₁.setTop (mkF m 0 #[.val (.ref w_NOT_LIKE)] []))
  refine own_st (fun t k => XS.aloadN X0.here hx rfl (hb hby d2_0) rfl rfl k) ?_
  show own_Fin p e below _ (s₁.setTop (mkF m 1 #[.val (.ref w_NOT_LIKE)] [(.ref w_NOT_LIKE)]))
  obtain ⟨T1, X1, e1, st1⟩ := getS2 X0 hx hZ hown (host := "") (Or.inl (hw _ (List.mem_of_getElem? (i := 13) rfl))) Via.refl e0 S_IS_TRUE (g := (mkF m 1 #[.val (.ref w_NOT_LIKE)] [(.ref w_NOT_LIKE)])) rfl (hb hby d2_1)
  refine own_st st1 ?_
  show own_Fin p e below _ (T1.setTop (mkF m 4 #[.val (.ref w_NOT_LIKE)] [(.ref w_IS_TRUE), (.ref w_NOT_LIKE)]))
  refine own_st (fun t k => Jvm.RoadKit.acmp (g := (mkF m 4 #[.val (.ref w_NOT_LIKE)] [(.ref w_IS_TRUE), (.ref w_NOT_LIKE)])) X1 hx rfl rfl rfl (pc0 := 4) (pc' := 7) (same := false) rfl (hb hby d2_4) rfl (decide_eq_false fun q => (Fld.ne F_NOT_LIKE_ordinal F_IS_TRUE_ordinal (by simp)) (Value.ref.inj q)) (by decide) (by decide) k) ?_
  show own_Fin p e below _ (T1.setTop (mkF m 7 #[.val (.ref w_NOT_LIKE)] []))
  refine own_st (fun t k => XS.aloadN X1.here hx rfl (hb hby d2_7) rfl rfl k) ?_
  show own_Fin p e below _ (T1.setTop (mkF m 8 #[.val (.ref w_NOT_LIKE)] [(.ref w_NOT_LIKE)]))
  obtain ⟨T2, X2, e2, st2⟩ := getS2 X1 hx hZ hown (host := "") (Or.inl (hw _ (List.mem_of_getElem? (i := 15) rfl))) Via.refl e1 S_IS_FALSE (g := (mkF m 8 #[.val (.ref w_NOT_LIKE)] [(.ref w_NOT_LIKE)])) rfl (hb hby d2_8)
  refine own_st st2 ?_
  show own_Fin p e below _ (T2.setTop (mkF m 11 #[.val (.ref w_NOT_LIKE)] [(.ref w_IS_FALSE), (.ref w_NOT_LIKE)]))
  refine own_st (fun t k => Jvm.RoadKit.acmp (g := (mkF m 11 #[.val (.ref w_NOT_LIKE)] [(.ref w_IS_FALSE), (.ref w_NOT_LIKE)])) X2 hx rfl rfl rfl (pc0 := 11) (pc' := 18) (same := false) rfl (hb hby d2_11) rfl (decide_eq_false fun q => (Fld.ne F_NOT_LIKE_ordinal F_IS_FALSE_ordinal (by simp)) (Value.ref.inj q)) (by decide) (by decide) k) ?_
  show own_Fin p e below _ (T2.setTop (mkF m 18 #[.val (.ref w_NOT_LIKE)] []))
  refine own_st (fun t k => XS.iconst X2.here hx rfl (hb hby d2_18) k) ?_
  show own_Fin p e below _ (T2.setTop (mkF m 19 #[.val (.ref w_NOT_LIKE)] [(.int (0 : Int32))]))
  obtain ⟨fs, hr, hrun, hended, hW, hsame⟩ := X2.leave (v := some (.int (0 : Int32))) (fun h => by rw [Bd.returns] at h; cases h)
  exact ⟨_, _, retN X2 hx (t := .boolean) Bd.returns (by simp) (hb hby d2_19) hr, hrun, hended, _, _, rfl, ⟨rfl, N0, e2⟩, ⟨_, rfl⟩, hW, hsame.mono (by decide) (by decide)⟩
set_option maxRecDepth 65536 in
set_option maxHeartbeats 40000000 in
theorem rm0_c13 (l : Launch) (Z : State) (a0 : Array Value) (hw : ∀ d ∈ tables_1, d.before a0 Z = true) (ws : List Jvm.Cond) (w_EQUAL w_IS_TRUE w_IS_FALSE w_GREATER_THAN_OR_EQUAL w_IS_NULL w_IS_NOT_NULL w_STARTING_WITH w_NOT_BETWEEN w_GREATER_THAN w_IN w_NOT_EQUAL w_NOT_IN w_ENDING_WITH w_BETWEEN w_NOT_CONTAINING w_CONTAINING w_LIKE w_LESS_THAN_OR_EQUAL w_LESS_THAN w_NOT_LIKE : Addr) (p0 : Int32) (h0 : Heap) (n0 : Nat) (PN : own_Pins Z h0 w_EQUAL w_IS_TRUE w_IS_FALSE w_GREATER_THAN_OR_EQUAL w_IS_NULL w_IS_NOT_NULL w_STARTING_WITH w_NOT_BETWEEN w_GREATER_THAN w_IN w_NOT_EQUAL w_NOT_IN w_ENDING_WITH w_BETWEEN w_NOT_CONTAINING w_CONTAINING w_LIKE w_LESS_THAN_OR_EQUAL w_LESS_THAN w_NOT_LIKE) (q0 : ((p0 &&& (2147483647 : Int32)) % (20 : Int32)) = (13 : Int32)) :
    MetFree l x (head1 (Jvm.Cond.code x code maxLocals ret :: ws) room_1) (fun a U => a = #[(.int p0)] ∧ Z.Warmed39 U.vm ∧ U.heap = h0) (fun _ _ _ _ _ => True) (fun _ U o U' => ∃ v L, o = .returned v ∧ own_Q h0 n0 (some (.int (1 : Int32))) v U'.heap L ∧ FrameEnd U o U' L room_1.cells room_1.slots) := by
  have E_NOT_LIKE : Exa Z h0 w_NOT_LIKE "com/example/rootward/rootward/jdbc/Condition$Operator" := PN.2.2.2.2.2.2.2.2.2.2.2.2.2.2.2.2.2.2.2.2.2.2.2.2.2.2.2.2.2.2.2.2.2.2.2.2.2.2.2.1
  refine MetFree.of_bodySF (plainFor_of_name pn_com_example_rootward_rootward_jdbc_OperatorTestsTruthPinLaw) hisR ?_
  intro p e s m args below meth c s₁ Bd hml0 hP hK
  obtain ⟨rfl, hZ, hh⟩ := hP
  have hx := Bd.exec
  have hby := Bd.bytes
  have hml : c.maxLocals = 5 := hml0
  have hown : s.vm.findClass "com/example/rootward/rootward/jdbc/OperatorTestsTruthPinLaw" = some m.cls := findClass_of_methodNamed Bd.named
  have X0 : Stand p l e room_1 s m #[(.int p0)] below meth c s₁ [] 0 0 := Stand.of_body Bd
  have e0 : s₁.heap = h0 := by rw [← hh, Bd.state]; rfl
  have N0 := Fr.nil n0
  refine (?_ : own_Fin p e below _ _)
  refine own_st (fun t k => castTop (ef_0_I m p0) k) ?_
  show own_Fin p e below _ (s₁.setTop (mkF m 0 #[.val (.int p0), .unset, .unset, .unset, .unset] []))
  refine own_st (fun t k => XS.iloadN X0.here hx rfl (hb hby at_0) rfl k) ?_
  show own_Fin p e below _ (s₁.setTop (mkF m 1 #[.val (.int p0), .unset, .unset, .unset, .unset] [(.int p0)]))
  refine own_st (fun t k => X0.ldcI hx hown (mvT hZ (hw _ (List.mem_of_getElem? (i := 0) rfl))) rfl (hb hby at_1) k) ?_
  show own_Fin p e below _ (s₁.setTop (mkF m 3 #[.val (.int p0), .unset, .unset, .unset, .unset] [(.int (2147483647 : Int32)), (.int p0)]))
  refine own_st (fun t k => XS.iand X0.here hx rfl (hb hby at_3) rfl k) ?_
  show own_Fin p e below _ (s₁.setTop (mkF m 4 #[.val (.int p0), .unset, .unset, .unset, .unset] [(.int (p0 &&& (2147483647 : Int32)))]))
  refine own_st (fun t k => XS.bipush X0.here hx rfl (hb hby at_4) k) ?_
  show own_Fin p e below _ (s₁.setTop (mkF m 6 #[.val (.int p0), .unset, .unset, .unset, .unset] [(.int (20 : Int32)), (.int (p0 &&& (2147483647 : Int32)))]))
  refine own_st (fun t k => iremM X0 hx rfl (hb hby at_6) rfl (by decide) k) ?_
  show own_Fin p e below _ (s₁.setTop (mkF m 7 #[.val (.int p0), .unset, .unset, .unset, .unset] [(.int ((p0 &&& (2147483647 : Int32)) % (20 : Int32)))]))
  rw [q0]
  show own_Fin p e below _ (s₁.setTop (mkF m 7 #[.val (.int p0), .unset, .unset, .unset, .unset] [(.int (13 : Int32))]))
  refine own_st (fun t k => XS.istoreN X0.here hx rfl (hb hby at_7) rfl (l' := #[.val (.int p0), .val (.int (13 : Int32)), .unset, .unset, .unset]) rfl k) ?_
  show own_Fin p e below _ (s₁.setTop (mkF m 8 #[.val (.int p0), .val (.int (13 : Int32)), .unset, .unset, .unset] []))
  refine own_st (fun t k => XS.iloadN X0.here hx rfl (hb hby at_8) rfl k) ?_
  show own_Fin p e below _ (s₁.setTop (mkF m 9 #[.val (.int p0), .val (.int (13 : Int32)), .unset, .unset, .unset] [(.int (13 : Int32))]))
  obtain ⟨_, _, ⟨T1, L1, k1, n1⟩, -, X1, ⟨Lc1, hQ1, l1, y1, z1⟩, st1⟩ := Jvm.LawKit.callS X0 hx (y := (⟨"com/example/rootward/rootward/jdbc/OperatorTestsTruthPinLaw", "pick", "(I)Lcom/example/rootward/rootward/jdbc/Condition$Operator;"⟩ : MethodName)) hown (mvT hZ (hw _ (List.mem_of_getElem? (i := 1) rfl))) (mvT hZ (hw _ (List.mem_of_getElem? (i := 2) rfl))) (mvT hZ (hw _ (List.mem_of_getElem? (i := 3) rfl))) (mvT hZ (hw _ (List.mem_of_getElem? (i := 4) rfl))) (by decide) (backOf (W := 0) (rm1_13 l Z a0 hw [] w_EQUAL w_IS_TRUE w_IS_FALSE w_GREATER_THAN_OR_EQUAL w_IS_NULL w_IS_NOT_NULL w_STARTING_WITH w_NOT_BETWEEN w_GREATER_THAN w_IN w_NOT_EQUAL w_NOT_IN w_ENDING_WITH w_BETWEEN w_NOT_CONTAINING w_CONTAINING w_LIKE w_LESS_THAN_OR_EQUAL w_LESS_THAN w_NOT_LIKE h0 n0 PN) hZ (hw _ (List.mem_of_getElem? (i := 4) rfl)) (hw _ (List.mem_of_getElem? (i := 3) rfl)) (by decide) (by decide)) (g := (mkF m 9 #[.val (.int p0), .val (.int (13 : Int32)), .unset, .unset, .unset] [(.int (13 : Int32))])) rfl (by rw [hml]; rfl) (argsL := [(.int (13 : Int32))]) (rest := []) (lenOf pd__I_Lcom_example_rootward_rootward_jdbc_Condition_Operator_ rfl) rfl (by show 2 * 0 + _ ≤ _; exact Nat.le_of_eq rfl) (hb hby at_9) (fun _ _ => ⟨rfl, e0, (by decide : 0 + 0 ≤ _), (by decide : 0 + 0 ≤ _)⟩)
  dsimp only [Pt.U, Pt.locs, Pt.cells, Pt.slots] at X1 l1 y1 z1 st1 hQ1
  subst l1 y1 z1
  obtain ⟨rfl, N1q, e1⟩ := hQ1
  have N1 := Fr.app N0 N1q
  refine own_st st1 ?_
  show own_Fin p e below _ (T1.setTop (mkF m 12 #[.val (.int p0), .val (.int (13 : Int32)), .unset, .unset, .unset] [(.ref w_NOT_LIKE)]))
  refine own_st (fun t k => XS.astoreN X1.here hx rfl (hb hby at_12) rfl rfl (l' := #[.val (.int p0), .val (.int (13 : Int32)), .val (.ref w_NOT_LIKE), .unset, .unset]) rfl k) ?_
  show own_Fin p e below _ (T1.setTop (mkF m 13 #[.val (.int p0), .val (.int (13 : Int32)), .val (.ref w_NOT_LIKE), .unset, .unset] []))
  refine own_st (fun t k => XS.iloadN X1.here hx rfl (hb hby at_13) rfl k) ?_
  show own_Fin p e below _ (T1.setTop (mkF m 14 #[.val (.int p0), .val (.int (13 : Int32)), .val (.ref w_NOT_LIKE), .unset, .unset] [(.int (13 : Int32))]))
  refine own_st (fun t k => XS.bipush X1.here hx rfl (hb hby at_14) k) ?_
  show own_Fin p e below _ (T1.setTop (mkF m 16 #[.val (.int p0), .val (.int (13 : Int32)), .val (.ref w_NOT_LIKE), .unset, .unset] [(.int (18 : Int32)), (.int (13 : Int32))]))
  refine own_st (fun t k => XS.icmpNo X1.here hx rfl (hb hby at_16) rfl (by decide) k) ?_
  show own_Fin p e below _ (T1.setTop (mkF m 19 #[.val (.int p0), .val (.int (13 : Int32)), .val (.ref w_NOT_LIKE), .unset, .unset] []))
  refine own_st (fun t k => XS.iloadN X1.here hx rfl (hb hby at_19) rfl k) ?_
  show own_Fin p e below _ (T1.setTop (mkF m 20 #[.val (.int p0), .val (.int (13 : Int32)), .val (.ref w_NOT_LIKE), .unset, .unset] [(.int (13 : Int32))]))
  refine own_st (fun t k => XS.bipush X1.here hx rfl (hb hby at_20) k) ?_
  show own_Fin p e below _ (T1.setTop (mkF m 22 #[.val (.int p0), .val (.int (13 : Int32)), .val (.ref w_NOT_LIKE), .unset, .unset] [(.int (19 : Int32)), (.int (13 : Int32))]))
  refine own_st (fun t k => XS.icmpYes X1.here hx rfl (pc0 := 22) (pc' := 29) rfl (hb hby at_22) rfl (by decide) (by decide) (by decide) k) ?_
  show own_Fin p e below _ (T1.setTop (mkF m 29 #[.val (.int p0), .val (.int (13 : Int32)), .val (.ref w_NOT_LIKE), .unset, .unset] []))
  refine own_st (fun t k => XS.iconst X1.here hx rfl (hb hby at_29) k) ?_
  show own_Fin p e below _ (T1.setTop (mkF m 30 #[.val (.int p0), .val (.int (13 : Int32)), .val (.ref w_NOT_LIKE), .unset, .unset] [(.int (0 : Int32))]))
  refine own_st (fun t k => XS.istoreN X1.here hx rfl (hb hby at_30) rfl (l' := #[.val (.int p0), .val (.int (13 : Int32)), .val (.ref w_NOT_LIKE), .val (.int (0 : Int32)), .unset]) rfl k) ?_
  show own_Fin p e below _ (T1.setTop (mkF m 31 #[.val (.int p0), .val (.int (13 : Int32)), .val (.ref w_NOT_LIKE), .val (.int (0 : Int32)), .unset] []))
  refine own_st (fun t k => XS.aloadN X1.here hx rfl (hb hby at_31) rfl rfl k) ?_
  show own_Fin p e below _ (T1.setTop (mkF m 32 #[.val (.int p0), .val (.int (13 : Int32)), .val (.ref w_NOT_LIKE), .val (.int (0 : Int32)), .unset] [(.ref w_NOT_LIKE)]))
  obtain ⟨cq2, kq2, q2a, q2b, q2c⟩ := isOf hZ e1 E_NOT_LIKE
  obtain ⟨_, _, ⟨T2, L2, k2, n2⟩, -, X2, ⟨Lc2, hQ2, l2, y2, z2⟩, st2⟩ := X1.virtualBack hx (y := (⟨"com/example/rootward/rootward/jdbc/Condition$Operator", "testsTruth", "()Z"⟩ : MethodName)) (z := (⟨"com/example/rootward/rootward/jdbc/Condition$Operator", "testsTruth", "()Z"⟩ : MethodName)) hown (mvT hZ (hw _ (List.mem_of_getElem? (i := 8) rfl))) (mvT hZ (hw _ (List.mem_of_getElem? (i := 9) rfl))) (notFace_of_selects (args := #[]) (mvT hZ (hw _ (List.mem_of_getElem? (i := 11) rfl)))) (mvT hZ (hw _ (List.mem_of_getElem? (i := 11) rfl))) (mvT hZ (hw _ (List.mem_of_getElem? (i := 10) rfl))) (by decide) (backOf (W := 0) (rm2_w_NOT_LIKE l Z a0 hw [] w_EQUAL w_IS_TRUE w_IS_FALSE w_GREATER_THAN_OR_EQUAL w_IS_NULL w_IS_NOT_NULL w_STARTING_WITH w_NOT_BETWEEN w_GREATER_THAN w_IN w_NOT_EQUAL w_NOT_IN w_ENDING_WITH w_BETWEEN w_NOT_CONTAINING w_CONTAINING w_LIKE w_LESS_THAN_OR_EQUAL w_LESS_THAN w_NOT_LIKE h0 n0 PN) hZ (hw _ (List.mem_of_getElem? (i := 12) rfl)) (hw _ (List.mem_of_getElem? (i := 6) rfl)) (by decide) (by decide)) q2a q2c (g := (mkF m 32 #[.val (.int p0), .val (.int (13 : Int32)), .val (.ref w_NOT_LIKE), .val (.int (0 : Int32)), .unset] [(.ref w_NOT_LIKE)])) rfl (by rw [hml]; rfl) (Steps.refl _) (argsL := []) (rest := []) (lenOf pd___Z rfl) rfl (by show 2 * 0 + _ ≤ _; exact Nat.le_of_eq rfl) (hb hby at_32) (fun _ _ => ⟨rfl, e1, (by decide : 0 + 0 ≤ _), (by decide : 0 + 0 ≤ _)⟩)
  dsimp only [Pt.U, Pt.locs, Pt.cells, Pt.slots] at X2 l2 y2 z2 st2 hQ2
  subst l2 y2 z2
  obtain ⟨rfl, N2q, e2⟩ := hQ2
  have N2 := Fr.app N1 N2q
  refine own_tr st2 ?_
  show own_Fin p e below _ (T2.setTop (mkF m 35 #[.val (.int p0), .val (.int (13 : Int32)), .val (.ref w_NOT_LIKE), .val (.int (0 : Int32)), .unset] [(.int (0 : Int32))]))
  refine own_st (fun t k => XS.istore X2.here hx rfl (hb hby at_35) rfl (l' := #[.val (.int p0), .val (.int (13 : Int32)), .val (.ref w_NOT_LIKE), .val (.int (0 : Int32)), .val (.int (0 : Int32))]) rfl k) ?_
  show own_Fin p e below _ (T2.setTop (mkF m 37 #[.val (.int p0), .val (.int (13 : Int32)), .val (.ref w_NOT_LIKE), .val (.int (0 : Int32)), .val (.int (0 : Int32))] []))
  refine own_st (fun t k => XS.iload X2.here hx rfl (hb hby at_37) rfl k) ?_
  show own_Fin p e below _ (T2.setTop (mkF m 39 #[.val (.int p0), .val (.int (13 : Int32)), .val (.ref w_NOT_LIKE), .val (.int (0 : Int32)), .val (.int (0 : Int32))] [(.int (0 : Int32))]))
  refine own_st (fun t k => XS.iloadN X2.here hx rfl (hb hby at_39) rfl k) ?_
  show own_Fin p e below _ (T2.setTop (mkF m 40 #[.val (.int p0), .val (.int (13 : Int32)), .val (.ref w_NOT_LIKE), .val (.int (0 : Int32)), .val (.int (0 : Int32))] [(.int (0 : Int32)), (.int (0 : Int32))]))
  refine own_st (fun t k => XS.icmpYes X2.here hx rfl (pc0 := 40) (pc' := 45) rfl (hb hby at_40) rfl (by decide) (by decide) (by decide) k) ?_
  show own_Fin p e below _ (T2.setTop (mkF m 45 #[.val (.int p0), .val (.int (13 : Int32)), .val (.ref w_NOT_LIKE), .val (.int (0 : Int32)), .val (.int (0 : Int32))] []))
  refine own_st (fun t k => XS.iload X2.here hx rfl (hb hby at_45) rfl k) ?_
  show own_Fin p e below _ (T2.setTop (mkF m 47 #[.val (.int p0), .val (.int (13 : Int32)), .val (.ref w_NOT_LIKE), .val (.int (0 : Int32)), .val (.int (0 : Int32))] [(.int (0 : Int32))]))
  refine own_st (fun t k => XS.ifYes X2.here hx rfl (pc0 := 47) (pc' := 73) rfl (hb hby at_47) rfl (by decide) (by decide) (by decide) k) ?_
  show own_Fin p e below _ (T2.setTop (mkF m 73 #[.val (.int p0), .val (.int (13 : Int32)), .val (.ref w_NOT_LIKE), .val (.int (0 : Int32)), .val (.int (0 : Int32))] []))
  refine own_st (fun t k => XS.iconst X2.here hx rfl (hb hby at_73) k) ?_
  show own_Fin p e below _ (T2.setTop (mkF m 74 #[.val (.int p0), .val (.int (13 : Int32)), .val (.ref w_NOT_LIKE), .val (.int (0 : Int32)), .val (.int (0 : Int32))] [(.int (1 : Int32))]))
  obtain ⟨fs, hr, hrun, hended, hW, hsame⟩ := X2.leave (v := some (.int (1 : Int32))) (fun h => by rw [Bd.returns] at h; cases h)
  exact ⟨_, _, retN X2 hx (t := .boolean) Bd.returns (by simp) (hb hby at_74) hr, hrun, hended, _, _, rfl, ⟨rfl, N2, e2⟩, ⟨_, rfl⟩, hW, hsame.mono (by decide) (by decide)⟩
theorem d1_148 : decode method_2_code 148 = .ok (.getstatic 52, 3) := by decide +kernel
theorem d1_151 : decode method_2_code 151 = .ok (.areturn, 1) := by decide +kernel
set_option maxRecDepth 65536 in
set_option maxHeartbeats 40000000 in
theorem rm1_14 (l : Launch) (Z : State) (a0 : Array Value) (hw : ∀ d ∈ tables_1, d.before a0 Z = true) (ws : List Jvm.Cond) (w_EQUAL w_IS_TRUE w_IS_FALSE w_GREATER_THAN_OR_EQUAL w_IS_NULL w_IS_NOT_NULL w_STARTING_WITH w_NOT_BETWEEN w_GREATER_THAN w_IN w_NOT_EQUAL w_NOT_IN w_ENDING_WITH w_BETWEEN w_NOT_CONTAINING w_CONTAINING w_LIKE w_LESS_THAN_OR_EQUAL w_LESS_THAN w_NOT_LIKE : Addr) (h0 : Heap) (n0 : Nat) (PN : own_Pins Z h0 w_EQUAL w_IS_TRUE w_IS_FALSE w_GREATER_THAN_OR_EQUAL w_IS_NULL w_IS_NOT_NULL w_STARTING_WITH w_NOT_BETWEEN w_GREATER_THAN w_IN w_NOT_EQUAL w_NOT_IN w_ENDING_WITH w_BETWEEN w_NOT_CONTAINING w_CONTAINING w_LIKE w_LESS_THAN_OR_EQUAL w_LESS_THAN w_NOT_LIKE) :
    MetFree l (⟨"com/example/rootward/rootward/jdbc/OperatorTestsTruthPinLaw", "pick", "(I)Lcom/example/rootward/rootward/jdbc/Condition$Operator;"⟩ : MethodName) (head1 (Jvm.Cond.code (⟨"com/example/rootward/rootward/jdbc/OperatorTestsTruthPinLaw", "pick", "(I)Lcom/example/rootward/rootward/jdbc/Condition$Operator;"⟩ : MethodName) method_2_code 1 (some (.object "com/example/rootward/rootward/jdbc/Condition$Operator")) :: ws) ({ frames := 0, cells := 0, slots := 0, locals := 0 } : Room)) (fun a U => a = #[(.int (14 : Int32))] ∧ Z.Warmed39 U.vm ∧ U.heap = h0) (fun _ _ _ _ _ => True) (fun _ U o U' => ∃ v L, o = .returned v ∧ own_Q h0 n0 (some (.ref w_STARTING_WITH)) v U'.heap L ∧ FrameEnd U o U' L ({ frames := 0, cells := 0, slots := 0, locals := 0 } : Room).cells ({ frames := 0, cells := 0, slots := 0, locals := 0 } : Room).slots) := by
  have S_STARTING_WITH : Sta Z h0 "com/example/rootward/rootward/jdbc/Condition$Operator" "STARTING_WITH" "Lcom/example/rootward/rootward/jdbc/Condition$Operator;" (.ref w_STARTING_WITH) := PN.2.2.2.2.2.2.2.2.2.2.2.2.1
  refine MetFree.of_bodySF (plainFor_of_name pn_com_example_rootward_rootward_jdbc_OperatorTestsTruthPinLaw) hisR ?_
  intro p e s m args below meth c s₁ Bd hml0 hP hK
  obtain ⟨rfl, hZ, hh⟩ := hP
  have hx := Bd.exec
  have hby := Bd.bytes
  have hml : c.maxLocals = 1 := hml0
  have hown : s.vm.findClass "com/example/rootward/rootward/jdbc/OperatorTestsTruthPinLaw" = some m.cls := findClass_of_methodNamed Bd.named
  have X0 : Stand p l e ({ frames := 0, cells := 0, slots := 0, locals := 0 } : Room) s m #[(.int (14 : Int32))] below meth c s₁ [] 0 0 := Stand.of_body Bd
  have e0 : s₁.heap = h0 := by rw [← hh, Bd.state]; rfl
  have N0 := Fr.nil n0
  refine (?_ : own_Fin p e below _ _)
  refine own_st (fun t k => castTop (ef_1_I m (14 : Int32)) k) ?_
  show own_Fin p e below _ (s₁.setTop (mkF m 0 #[.val (.int (14 : Int32))] []))
  refine own_st (fun t k => XS.iloadN X0.here hx rfl (hb hby d1_0) rfl k) ?_
  show own_Fin p e below _ (s₁.setTop (mkF m 1 #[.val (.int (14 : Int32))] [(.int (14 : Int32))]))
  refine own_st (fun t k => XS.tswIn X0.here hx rfl (pc0 := 1) (pc' := 148) rfl (hb hby d1_1) rfl (by decide) (o := 147) (by decide) (by decide) (by decide) k) ?_
  show own_Fin p e below _ (s₁.setTop (mkF m 148 #[.val (.int (14 : Int32))] []))
  obtain ⟨T1, X1, e1, st1⟩ := getS2 X0 hx hZ hown (host := "") (Or.inl (hw _ (List.mem_of_getElem? (i := 23) rfl))) Via.refl e0 S_STARTING_WITH (g := (mkF m 148 #[.val (.int (14 : Int32))] [])) rfl (hb hby d1_148)
  refine own_st st1 ?_
  show own_Fin p e below _ (T1.setTop (mkF m 151 #[.val (.int (14 : Int32))] [(.ref w_STARTING_WITH)]))
  obtain ⟨fs, hr, hrun, hended, hW, hsame⟩ := X1.leave (v := some (.ref w_STARTING_WITH)) (fun h => by rw [Bd.returns] at h; cases h)
  exact ⟨_, _, retOut X1 hx (t := (.object "com/example/rootward/rootward/jdbc/Condition$Operator")) Bd.returns rfl (Or.inr (Or.inr (Or.inr (Or.inr ⟨rfl, rfl, rfl⟩)))) (hb hby d1_151) hr, hrun, hended, _, _, rfl, ⟨rfl, N0, e1⟩, ⟨_, rfl⟩, hW, hsame.mono (by decide) (by decide)⟩
set_option maxRecDepth 65536 in
set_option maxHeartbeats 40000000 in
theorem rm2_w_STARTING_WITH (l : Launch) (Z : State) (a0 : Array Value) (hw : ∀ d ∈ tables_1, d.before a0 Z = true) (ws : List Jvm.Cond) (w_EQUAL w_IS_TRUE w_IS_FALSE w_GREATER_THAN_OR_EQUAL w_IS_NULL w_IS_NOT_NULL w_STARTING_WITH w_NOT_BETWEEN w_GREATER_THAN w_IN w_NOT_EQUAL w_NOT_IN w_ENDING_WITH w_BETWEEN w_NOT_CONTAINING w_CONTAINING w_LIKE w_LESS_THAN_OR_EQUAL w_LESS_THAN w_NOT_LIKE : Addr) (h0 : Heap) (n0 : Nat) (PN : own_Pins Z h0 w_EQUAL w_IS_TRUE w_IS_FALSE w_GREATER_THAN_OR_EQUAL w_IS_NULL w_IS_NOT_NULL w_STARTING_WITH w_NOT_BETWEEN w_GREATER_THAN w_IN w_NOT_EQUAL w_NOT_IN w_ENDING_WITH w_BETWEEN w_NOT_CONTAINING w_CONTAINING w_LIKE w_LESS_THAN_OR_EQUAL w_LESS_THAN w_NOT_LIKE) :
    MetFree l (⟨"com/example/rootward/rootward/jdbc/Condition$Operator", "testsTruth", "()Z"⟩ : MethodName) (head1 (Jvm.Cond.code (⟨"com/example/rootward/rootward/jdbc/Condition$Operator", "testsTruth", "()Z"⟩ : MethodName) prog_32_method_8_code 1 (some .boolean) :: ws) ({ frames := 0, cells := 0, slots := 0, locals := 0 } : Room)) (fun a U => a = #[(.ref w_STARTING_WITH)] ∧ Z.Warmed39 U.vm ∧ U.heap = h0) (fun _ _ _ _ _ => True) (fun _ U o U' => ∃ v L, o = .returned v ∧ own_Q h0 n0 (some (.int (0 : Int32))) v U'.heap L ∧ FrameEnd U o U' L ({ frames := 0, cells := 0, slots := 0, locals := 0 } : Room).cells ({ frames := 0, cells := 0, slots := 0, locals := 0 } : Room).slots) := by
  have S_IS_TRUE : Sta Z h0 "com/example/rootward/rootward/jdbc/Condition$Operator" "IS_TRUE" "Lcom/example/rootward/rootward/jdbc/Condition$Operator;" (.ref w_IS_TRUE) := PN.2.2.1
  have S_IS_FALSE : Sta Z h0 "com/example/rootward/rootward/jdbc/Condition$Operator" "IS_FALSE" "Lcom/example/rootward/rootward/jdbc/Condition$Operator;" (.ref w_IS_FALSE) := PN.2.2.2.2.1
  have F_IS_TRUE_ordinal : Fld Z h0 w_IS_TRUE "java/lang/Enum" "ordinal" "I" (.int 18) := PN.2.2.2.2.2.2.2.2.2.2.2.2.2.2.2.2.2.2.2.2.2.2.2.2.2.2.2.2.2.2.2.2.2.2.2.2.2.2.2.2.2.1
  have F_IS_FALSE_ordinal : Fld Z h0 w_IS_FALSE "java/lang/Enum" "ordinal" "I" (.int 19) := PN.2.2.2.2.2.2.2.2.2.2.2.2.2.2.2.2.2.2.2.2.2.2.2.2.2.2.2.2.2.2.2.2.2.2.2.2.2.2.2.2.2.2.1
  have F_STARTING_WITH_ordinal : Fld Z h0 w_STARTING_WITH "java/lang/Enum" "ordinal" "I" (.int 14) := PN.2.2.2.2.2.2.2.2.2.2.2.2.2.2.2.2.2.2.2.2.2.2.2.2.2.2.2.2.2.2.2.2.2.2.2.2.2.2.2.2.2.2.2.2.2.2.1
  refine MetFree.of_bodySF (plainFor_of_name pn_com_example_rootward_rootward_jdbc_Condition_Operator) hisR ?_
  intro p e s m args below meth c s₁ Bd hml0 hP hK
  obtain ⟨rfl, hZ, hh⟩ := hP
  have hx := Bd.exec
  have hby := Bd.bytes
  have hml : c.maxLocals = 1 := hml0
  have hown : s.vm.findClass "com/example/rootward/rootward/jdbc/Condition$Operator" = some m.cls := findClass_of_methodNamed Bd.named
  have X0 : Stand p l e ({ frames := 0, cells := 0, slots := 0, locals := 0 } : Room) s m #[(.ref w_STARTING_WITH)] below meth c s₁ [] 0 0 := Stand.of_body Bd
  have e0 : s₁.heap = h0 := by rw [← hh, Bd.state]; rfl
  have N0 := Fr.nil n0
  refine (?_ : own_Fin p e below _ _)
  refine own_st (fun t k => castTop (ef_2_R m w_STARTING_WITH) k) ?_
  show own_Fin p e below _ (s₁.setTop (mkF m 0 #[.val (.ref w_STARTING_WITH)] []))
  refine own_st (fun t k => XS.aloadN X0.here hx rfl (hb hby d2_0) rfl rfl k) ?_
  show own_Fin p e below _ (s₁.setTop (mkF m 1 #[.val (.ref w_STARTING_WITH)] [(.ref w_STARTING_WITH)]))
  obtain ⟨T1, X1, e1, st1⟩ := getS2 X0 hx hZ hown (host := "") (Or.inl (hw _ (List.mem_of_getElem? (i := 13) rfl))) Via.refl e0 S_IS_TRUE (g := (mkF m 1 #[.val (.ref w_STARTING_WITH)] [(.ref w_STARTING_WITH)])) rfl (hb hby d2_1)
  refine own_st st1 ?_
  show own_Fin p e below _ (T1.setTop (mkF m 4 #[.val (.ref w_STARTING_WITH)] [(.ref w_IS_TRUE), (.ref w_STARTING_WITH)]))
  refine own_st (fun t k => Jvm.RoadKit.acmp (g := (mkF m 4 #[.val (.ref w_STARTING_WITH)] [(.ref w_IS_TRUE), (.ref w_STARTING_WITH)])) X1 hx rfl rfl rfl (pc0 := 4) (pc' := 7) (same := false) rfl (hb hby d2_4) rfl (decide_eq_false fun q => (Fld.ne F_STARTING_WITH_ordinal F_IS_TRUE_ordinal (by simp)) (Value.ref.inj q)) (by decide) (by decide) k) ?_
  show own_Fin p e below _ (T1.setTop (mkF m 7 #[.val (.ref w_STARTING_WITH)] []))
  refine own_st (fun t k => XS.aloadN X1.here hx rfl (hb hby d2_7) rfl rfl k) ?_
  show own_Fin p e below _ (T1.setTop (mkF m 8 #[.val (.ref w_STARTING_WITH)] [(.ref w_STARTING_WITH)]))
  obtain ⟨T2, X2, e2, st2⟩ := getS2 X1 hx hZ hown (host := "") (Or.inl (hw _ (List.mem_of_getElem? (i := 15) rfl))) Via.refl e1 S_IS_FALSE (g := (mkF m 8 #[.val (.ref w_STARTING_WITH)] [(.ref w_STARTING_WITH)])) rfl (hb hby d2_8)
  refine own_st st2 ?_
  show own_Fin p e below _ (T2.setTop (mkF m 11 #[.val (.ref w_STARTING_WITH)] [(.ref w_IS_FALSE), (.ref w_STARTING_WITH)]))
  refine own_st (fun t k => Jvm.RoadKit.acmp (g := (mkF m 11 #[.val (.ref w_STARTING_WITH)] [(.ref w_IS_FALSE), (.ref w_STARTING_WITH)])) X2 hx rfl rfl rfl (pc0 := 11) (pc' := 18) (same := false) rfl (hb hby d2_11) rfl (decide_eq_false fun q => (Fld.ne F_STARTING_WITH_ordinal F_IS_FALSE_ordinal (by simp)) (Value.ref.inj q)) (by decide) (by decide) k) ?_
  show own_Fin p e below _ (T2.setTop (mkF m 18 #[.val (.ref w_STARTING_WITH)] []))
  refine own_st (fun t k => XS.iconst X2.here hx rfl (hb hby d2_18) k) ?_
  show own_Fin p e below _ (T2.setTop (mkF m 19 #[.val (.ref w_STARTING_WITH)] [(.int (0 : Int32))]))
  obtain ⟨fs, hr, hrun, hended, hW, hsame⟩ := X2.leave (v := some (.int (0 : Int32))) (fun h => by rw [Bd.returns] at h; cases h)
  exact ⟨_, _, retN X2 hx (t := .boolean) Bd.returns (by simp) (hb hby d2_19) hr, hrun, hended, _, _, rfl, ⟨rfl, N0, e2⟩, ⟨_, rfl⟩, hW, hsame.mono (by decide) (by decide)⟩
set_option maxRecDepth 65536 in
set_option maxHeartbeats 40000000 in
theorem rm0_c14 (l : Launch) (Z : State) (a0 : Array Value) (hw : ∀ d ∈ tables_1, d.before a0 Z = true) (ws : List Jvm.Cond) (w_EQUAL w_IS_TRUE w_IS_FALSE w_GREATER_THAN_OR_EQUAL w_IS_NULL w_IS_NOT_NULL w_STARTING_WITH w_NOT_BETWEEN w_GREATER_THAN w_IN w_NOT_EQUAL w_NOT_IN w_ENDING_WITH w_BETWEEN w_NOT_CONTAINING w_CONTAINING w_LIKE w_LESS_THAN_OR_EQUAL w_LESS_THAN w_NOT_LIKE : Addr) (p0 : Int32) (h0 : Heap) (n0 : Nat) (PN : own_Pins Z h0 w_EQUAL w_IS_TRUE w_IS_FALSE w_GREATER_THAN_OR_EQUAL w_IS_NULL w_IS_NOT_NULL w_STARTING_WITH w_NOT_BETWEEN w_GREATER_THAN w_IN w_NOT_EQUAL w_NOT_IN w_ENDING_WITH w_BETWEEN w_NOT_CONTAINING w_CONTAINING w_LIKE w_LESS_THAN_OR_EQUAL w_LESS_THAN w_NOT_LIKE) (q0 : ((p0 &&& (2147483647 : Int32)) % (20 : Int32)) = (14 : Int32)) :
    MetFree l x (head1 (Jvm.Cond.code x code maxLocals ret :: ws) room_1) (fun a U => a = #[(.int p0)] ∧ Z.Warmed39 U.vm ∧ U.heap = h0) (fun _ _ _ _ _ => True) (fun _ U o U' => ∃ v L, o = .returned v ∧ own_Q h0 n0 (some (.int (1 : Int32))) v U'.heap L ∧ FrameEnd U o U' L room_1.cells room_1.slots) := by
  have E_STARTING_WITH : Exa Z h0 w_STARTING_WITH "com/example/rootward/rootward/jdbc/Condition$Operator" := PN.2.2.2.2.2.2.2.2.2.2.2.2.2.1
  refine MetFree.of_bodySF (plainFor_of_name pn_com_example_rootward_rootward_jdbc_OperatorTestsTruthPinLaw) hisR ?_
  intro p e s m args below meth c s₁ Bd hml0 hP hK
  obtain ⟨rfl, hZ, hh⟩ := hP
  have hx := Bd.exec
  have hby := Bd.bytes
  have hml : c.maxLocals = 5 := hml0
  have hown : s.vm.findClass "com/example/rootward/rootward/jdbc/OperatorTestsTruthPinLaw" = some m.cls := findClass_of_methodNamed Bd.named
  have X0 : Stand p l e room_1 s m #[(.int p0)] below meth c s₁ [] 0 0 := Stand.of_body Bd
  have e0 : s₁.heap = h0 := by rw [← hh, Bd.state]; rfl
  have N0 := Fr.nil n0
  refine (?_ : own_Fin p e below _ _)
  refine own_st (fun t k => castTop (ef_0_I m p0) k) ?_
  show own_Fin p e below _ (s₁.setTop (mkF m 0 #[.val (.int p0), .unset, .unset, .unset, .unset] []))
  refine own_st (fun t k => XS.iloadN X0.here hx rfl (hb hby at_0) rfl k) ?_
  show own_Fin p e below _ (s₁.setTop (mkF m 1 #[.val (.int p0), .unset, .unset, .unset, .unset] [(.int p0)]))
  refine own_st (fun t k => X0.ldcI hx hown (mvT hZ (hw _ (List.mem_of_getElem? (i := 0) rfl))) rfl (hb hby at_1) k) ?_
  show own_Fin p e below _ (s₁.setTop (mkF m 3 #[.val (.int p0), .unset, .unset, .unset, .unset] [(.int (2147483647 : Int32)), (.int p0)]))
  refine own_st (fun t k => XS.iand X0.here hx rfl (hb hby at_3) rfl k) ?_
  show own_Fin p e below _ (s₁.setTop (mkF m 4 #[.val (.int p0), .unset, .unset, .unset, .unset] [(.int (p0 &&& (2147483647 : Int32)))]))
  refine own_st (fun t k => XS.bipush X0.here hx rfl (hb hby at_4) k) ?_
  show own_Fin p e below _ (s₁.setTop (mkF m 6 #[.val (.int p0), .unset, .unset, .unset, .unset] [(.int (20 : Int32)), (.int (p0 &&& (2147483647 : Int32)))]))
  refine own_st (fun t k => iremM X0 hx rfl (hb hby at_6) rfl (by decide) k) ?_
  show own_Fin p e below _ (s₁.setTop (mkF m 7 #[.val (.int p0), .unset, .unset, .unset, .unset] [(.int ((p0 &&& (2147483647 : Int32)) % (20 : Int32)))]))
  rw [q0]
  show own_Fin p e below _ (s₁.setTop (mkF m 7 #[.val (.int p0), .unset, .unset, .unset, .unset] [(.int (14 : Int32))]))
  refine own_st (fun t k => XS.istoreN X0.here hx rfl (hb hby at_7) rfl (l' := #[.val (.int p0), .val (.int (14 : Int32)), .unset, .unset, .unset]) rfl k) ?_
  show own_Fin p e below _ (s₁.setTop (mkF m 8 #[.val (.int p0), .val (.int (14 : Int32)), .unset, .unset, .unset] []))
  refine own_st (fun t k => XS.iloadN X0.here hx rfl (hb hby at_8) rfl k) ?_
  show own_Fin p e below _ (s₁.setTop (mkF m 9 #[.val (.int p0), .val (.int (14 : Int32)), .unset, .unset, .unset] [(.int (14 : Int32))]))
  obtain ⟨_, _, ⟨T1, L1, k1, n1⟩, -, X1, ⟨Lc1, hQ1, l1, y1, z1⟩, st1⟩ := Jvm.LawKit.callS X0 hx (y := (⟨"com/example/rootward/rootward/jdbc/OperatorTestsTruthPinLaw", "pick", "(I)Lcom/example/rootward/rootward/jdbc/Condition$Operator;"⟩ : MethodName)) hown (mvT hZ (hw _ (List.mem_of_getElem? (i := 1) rfl))) (mvT hZ (hw _ (List.mem_of_getElem? (i := 2) rfl))) (mvT hZ (hw _ (List.mem_of_getElem? (i := 3) rfl))) (mvT hZ (hw _ (List.mem_of_getElem? (i := 4) rfl))) (by decide) (backOf (W := 0) (rm1_14 l Z a0 hw [] w_EQUAL w_IS_TRUE w_IS_FALSE w_GREATER_THAN_OR_EQUAL w_IS_NULL w_IS_NOT_NULL w_STARTING_WITH w_NOT_BETWEEN w_GREATER_THAN w_IN w_NOT_EQUAL w_NOT_IN w_ENDING_WITH w_BETWEEN w_NOT_CONTAINING w_CONTAINING w_LIKE w_LESS_THAN_OR_EQUAL w_LESS_THAN w_NOT_LIKE h0 n0 PN) hZ (hw _ (List.mem_of_getElem? (i := 4) rfl)) (hw _ (List.mem_of_getElem? (i := 3) rfl)) (by decide) (by decide)) (g := (mkF m 9 #[.val (.int p0), .val (.int (14 : Int32)), .unset, .unset, .unset] [(.int (14 : Int32))])) rfl (by rw [hml]; rfl) (argsL := [(.int (14 : Int32))]) (rest := []) (lenOf pd__I_Lcom_example_rootward_rootward_jdbc_Condition_Operator_ rfl) rfl (by show 2 * 0 + _ ≤ _; exact Nat.le_of_eq rfl) (hb hby at_9) (fun _ _ => ⟨rfl, e0, (by decide : 0 + 0 ≤ _), (by decide : 0 + 0 ≤ _)⟩)
  dsimp only [Pt.U, Pt.locs, Pt.cells, Pt.slots] at X1 l1 y1 z1 st1 hQ1
  subst l1 y1 z1
  obtain ⟨rfl, N1q, e1⟩ := hQ1
  have N1 := Fr.app N0 N1q
  refine own_st st1 ?_
  show own_Fin p e below _ (T1.setTop (mkF m 12 #[.val (.int p0), .val (.int (14 : Int32)), .unset, .unset, .unset] [(.ref w_STARTING_WITH)]))
  refine own_st (fun t k => XS.astoreN X1.here hx rfl (hb hby at_12) rfl rfl (l' := #[.val (.int p0), .val (.int (14 : Int32)), .val (.ref w_STARTING_WITH), .unset, .unset]) rfl k) ?_
  show own_Fin p e below _ (T1.setTop (mkF m 13 #[.val (.int p0), .val (.int (14 : Int32)), .val (.ref w_STARTING_WITH), .unset, .unset] []))
  refine own_st (fun t k => XS.iloadN X1.here hx rfl (hb hby at_13) rfl k) ?_
  show own_Fin p e below _ (T1.setTop (mkF m 14 #[.val (.int p0), .val (.int (14 : Int32)), .val (.ref w_STARTING_WITH), .unset, .unset] [(.int (14 : Int32))]))
  refine own_st (fun t k => XS.bipush X1.here hx rfl (hb hby at_14) k) ?_
  show own_Fin p e below _ (T1.setTop (mkF m 16 #[.val (.int p0), .val (.int (14 : Int32)), .val (.ref w_STARTING_WITH), .unset, .unset] [(.int (18 : Int32)), (.int (14 : Int32))]))
  refine own_st (fun t k => XS.icmpNo X1.here hx rfl (hb hby at_16) rfl (by decide) k) ?_
  show own_Fin p e below _ (T1.setTop (mkF m 19 #[.val (.int p0), .val (.int (14 : Int32)), .val (.ref w_STARTING_WITH), .unset, .unset] []))
  refine own_st (fun t k => XS.iloadN X1.here hx rfl (hb hby at_19) rfl k) ?_
  show own_Fin p e below _ (T1.setTop (mkF m 20 #[.val (.int p0), .val (.int (14 : Int32)), .val (.ref w_STARTING_WITH), .unset, .unset] [(.int (14 : Int32))]))
  refine own_st (fun t k => XS.bipush X1.here hx rfl (hb hby at_20) k) ?_
  show own_Fin p e below _ (T1.setTop (mkF m 22 #[.val (.int p0), .val (.int (14 : Int32)), .val (.ref w_STARTING_WITH), .unset, .unset] [(.int (19 : Int32)), (.int (14 : Int32))]))
  refine own_st (fun t k => XS.icmpYes X1.here hx rfl (pc0 := 22) (pc' := 29) rfl (hb hby at_22) rfl (by decide) (by decide) (by decide) k) ?_
  show own_Fin p e below _ (T1.setTop (mkF m 29 #[.val (.int p0), .val (.int (14 : Int32)), .val (.ref w_STARTING_WITH), .unset, .unset] []))
  refine own_st (fun t k => XS.iconst X1.here hx rfl (hb hby at_29) k) ?_
  show own_Fin p e below _ (T1.setTop (mkF m 30 #[.val (.int p0), .val (.int (14 : Int32)), .val (.ref w_STARTING_WITH), .unset, .unset] [(.int (0 : Int32))]))
  refine own_st (fun t k => XS.istoreN X1.here hx rfl (hb hby at_30) rfl (l' := #[.val (.int p0), .val (.int (14 : Int32)), .val (.ref w_STARTING_WITH), .val (.int (0 : Int32)), .unset]) rfl k) ?_
  show own_Fin p e below _ (T1.setTop (mkF m 31 #[.val (.int p0), .val (.int (14 : Int32)), .val (.ref w_STARTING_WITH), .val (.int (0 : Int32)), .unset] []))
  refine own_st (fun t k => XS.aloadN X1.here hx rfl (hb hby at_31) rfl rfl k) ?_
  show own_Fin p e below _ (T1.setTop (mkF m 32 #[.val (.int p0), .val (.int (14 : Int32)), .val (.ref w_STARTING_WITH), .val (.int (0 : Int32)), .unset] [(.ref w_STARTING_WITH)]))
  obtain ⟨cq2, kq2, q2a, q2b, q2c⟩ := isOf hZ e1 E_STARTING_WITH
  obtain ⟨_, _, ⟨T2, L2, k2, n2⟩, -, X2, ⟨Lc2, hQ2, l2, y2, z2⟩, st2⟩ := X1.virtualBack hx (y := (⟨"com/example/rootward/rootward/jdbc/Condition$Operator", "testsTruth", "()Z"⟩ : MethodName)) (z := (⟨"com/example/rootward/rootward/jdbc/Condition$Operator", "testsTruth", "()Z"⟩ : MethodName)) hown (mvT hZ (hw _ (List.mem_of_getElem? (i := 8) rfl))) (mvT hZ (hw _ (List.mem_of_getElem? (i := 9) rfl))) (notFace_of_selects (args := #[]) (mvT hZ (hw _ (List.mem_of_getElem? (i := 11) rfl)))) (mvT hZ (hw _ (List.mem_of_getElem? (i := 11) rfl))) (mvT hZ (hw _ (List.mem_of_getElem? (i := 10) rfl))) (by decide) (backOf (W := 0) (rm2_w_STARTING_WITH l Z a0 hw [] w_EQUAL w_IS_TRUE w_IS_FALSE w_GREATER_THAN_OR_EQUAL w_IS_NULL w_IS_NOT_NULL w_STARTING_WITH w_NOT_BETWEEN w_GREATER_THAN w_IN w_NOT_EQUAL w_NOT_IN w_ENDING_WITH w_BETWEEN w_NOT_CONTAINING w_CONTAINING w_LIKE w_LESS_THAN_OR_EQUAL w_LESS_THAN w_NOT_LIKE h0 n0 PN) hZ (hw _ (List.mem_of_getElem? (i := 12) rfl)) (hw _ (List.mem_of_getElem? (i := 6) rfl)) (by decide) (by decide)) q2a q2c (g := (mkF m 32 #[.val (.int p0), .val (.int (14 : Int32)), .val (.ref w_STARTING_WITH), .val (.int (0 : Int32)), .unset] [(.ref w_STARTING_WITH)])) rfl (by rw [hml]; rfl) (Steps.refl _) (argsL := []) (rest := []) (lenOf pd___Z rfl) rfl (by show 2 * 0 + _ ≤ _; exact Nat.le_of_eq rfl) (hb hby at_32) (fun _ _ => ⟨rfl, e1, (by decide : 0 + 0 ≤ _), (by decide : 0 + 0 ≤ _)⟩)
  dsimp only [Pt.U, Pt.locs, Pt.cells, Pt.slots] at X2 l2 y2 z2 st2 hQ2
  subst l2 y2 z2
  obtain ⟨rfl, N2q, e2⟩ := hQ2
  have N2 := Fr.app N1 N2q
  refine own_tr st2 ?_
  show own_Fin p e below _ (T2.setTop (mkF m 35 #[.val (.int p0), .val (.int (14 : Int32)), .val (.ref w_STARTING_WITH), .val (.int (0 : Int32)), .unset] [(.int (0 : Int32))]))
  refine own_st (fun t k => XS.istore X2.here hx rfl (hb hby at_35) rfl (l' := #[.val (.int p0), .val (.int (14 : Int32)), .val (.ref w_STARTING_WITH), .val (.int (0 : Int32)), .val (.int (0 : Int32))]) rfl k) ?_
  show own_Fin p e below _ (T2.setTop (mkF m 37 #[.val (.int p0), .val (.int (14 : Int32)), .val (.ref w_STARTING_WITH), .val (.int (0 : Int32)), .val (.int (0 : Int32))] []))
  refine own_st (fun t k => XS.iload X2.here hx rfl (hb hby at_37) rfl k) ?_
  show own_Fin p e below _ (T2.setTop (mkF m 39 #[.val (.int p0), .val (.int (14 : Int32)), .val (.ref w_STARTING_WITH), .val (.int (0 : Int32)), .val (.int (0 : Int32))] [(.int (0 : Int32))]))
  refine own_st (fun t k => XS.iloadN X2.here hx rfl (hb hby at_39) rfl k) ?_
  show own_Fin p e below _ (T2.setTop (mkF m 40 #[.val (.int p0), .val (.int (14 : Int32)), .val (.ref w_STARTING_WITH), .val (.int (0 : Int32)), .val (.int (0 : Int32))] [(.int (0 : Int32)), (.int (0 : Int32))]))
  refine own_st (fun t k => XS.icmpYes X2.here hx rfl (pc0 := 40) (pc' := 45) rfl (hb hby at_40) rfl (by decide) (by decide) (by decide) k) ?_
  show own_Fin p e below _ (T2.setTop (mkF m 45 #[.val (.int p0), .val (.int (14 : Int32)), .val (.ref w_STARTING_WITH), .val (.int (0 : Int32)), .val (.int (0 : Int32))] []))
  refine own_st (fun t k => XS.iload X2.here hx rfl (hb hby at_45) rfl k) ?_
  show own_Fin p e below _ (T2.setTop (mkF m 47 #[.val (.int p0), .val (.int (14 : Int32)), .val (.ref w_STARTING_WITH), .val (.int (0 : Int32)), .val (.int (0 : Int32))] [(.int (0 : Int32))]))
  refine own_st (fun t k => XS.ifYes X2.here hx rfl (pc0 := 47) (pc' := 73) rfl (hb hby at_47) rfl (by decide) (by decide) (by decide) k) ?_
  show own_Fin p e below _ (T2.setTop (mkF m 73 #[.val (.int p0), .val (.int (14 : Int32)), .val (.ref w_STARTING_WITH), .val (.int (0 : Int32)), .val (.int (0 : Int32))] []))
  refine own_st (fun t k => XS.iconst X2.here hx rfl (hb hby at_73) k) ?_
  show own_Fin p e below _ (T2.setTop (mkF m 74 #[.val (.int p0), .val (.int (14 : Int32)), .val (.ref w_STARTING_WITH), .val (.int (0 : Int32)), .val (.int (0 : Int32))] [(.int (1 : Int32))]))
  obtain ⟨fs, hr, hrun, hended, hW, hsame⟩ := X2.leave (v := some (.int (1 : Int32))) (fun h => by rw [Bd.returns] at h; cases h)
  exact ⟨_, _, retN X2 hx (t := .boolean) Bd.returns (by simp) (hb hby at_74) hr, hrun, hended, _, _, rfl, ⟨rfl, N2, e2⟩, ⟨_, rfl⟩, hW, hsame.mono (by decide) (by decide)⟩
theorem d1_152 : decode method_2_code 152 = .ok (.getstatic 55, 3) := by decide +kernel
theorem d1_155 : decode method_2_code 155 = .ok (.areturn, 1) := by decide +kernel
set_option maxRecDepth 65536 in
set_option maxHeartbeats 40000000 in
theorem rm1_15 (l : Launch) (Z : State) (a0 : Array Value) (hw : ∀ d ∈ tables_1, d.before a0 Z = true) (ws : List Jvm.Cond) (w_EQUAL w_IS_TRUE w_IS_FALSE w_GREATER_THAN_OR_EQUAL w_IS_NULL w_IS_NOT_NULL w_STARTING_WITH w_NOT_BETWEEN w_GREATER_THAN w_IN w_NOT_EQUAL w_NOT_IN w_ENDING_WITH w_BETWEEN w_NOT_CONTAINING w_CONTAINING w_LIKE w_LESS_THAN_OR_EQUAL w_LESS_THAN w_NOT_LIKE : Addr) (h0 : Heap) (n0 : Nat) (PN : own_Pins Z h0 w_EQUAL w_IS_TRUE w_IS_FALSE w_GREATER_THAN_OR_EQUAL w_IS_NULL w_IS_NOT_NULL w_STARTING_WITH w_NOT_BETWEEN w_GREATER_THAN w_IN w_NOT_EQUAL w_NOT_IN w_ENDING_WITH w_BETWEEN w_NOT_CONTAINING w_CONTAINING w_LIKE w_LESS_THAN_OR_EQUAL w_LESS_THAN w_NOT_LIKE) :
    MetFree l (⟨"com/example/rootward/rootward/jdbc/OperatorTestsTruthPinLaw", "pick", "(I)Lcom/example/rootward/rootward/jdbc/Condition$Operator;"⟩ : MethodName) (head1 (Jvm.Cond.code (⟨"com/example/rootward/rootward/jdbc/OperatorTestsTruthPinLaw", "pick", "(I)Lcom/example/rootward/rootward/jdbc/Condition$Operator;"⟩ : MethodName) method_2_code 1 (some (.object "com/example/rootward/rootward/jdbc/Condition$Operator")) :: ws) ({ frames := 0, cells := 0, slots := 0, locals := 0 } : Room)) (fun a U => a = #[(.int (15 : Int32))] ∧ Z.Warmed39 U.vm ∧ U.heap = h0) (fun _ _ _ _ _ => True) (fun _ U o U' => ∃ v L, o = .returned v ∧ own_Q h0 n0 (some (.ref w_ENDING_WITH)) v U'.heap L ∧ FrameEnd U o U' L ({ frames := 0, cells := 0, slots := 0, locals := 0 } : Room).cells ({ frames := 0, cells := 0, slots := 0, locals := 0 } : Room).slots) := by
  have S_ENDING_WITH : Sta Z h0 "com/example/rootward/rootward/jdbc/Condition$Operator" "ENDING_WITH" "Lcom/example/rootward/rootward/jdbc/Condition$Operator;" (.ref w_ENDING_WITH) := PN.2.2.2.2.2.2.2.2.2.2.2.2.2.2.2.2.2.2.2.2.2.2.2.2.1
  refine MetFree.of_bodySF (plainFor_of_name pn_com_example_rootward_rootward_jdbc_OperatorTestsTruthPinLaw) hisR ?_
  intro p e s m args below meth c s₁ Bd hml0 hP hK
  obtain ⟨rfl, hZ, hh⟩ := hP
  have hx := Bd.exec
  have hby := Bd.bytes
  have hml : c.maxLocals = 1 := hml0
  have hown : s.vm.findClass "com/example/rootward/rootward/jdbc/OperatorTestsTruthPinLaw" = some m.cls := findClass_of_methodNamed Bd.named
  have X0 : Stand p l e ({ frames := 0, cells := 0, slots := 0, locals := 0 } : Room) s m #[(.int (15 : Int32))] below meth c s₁ [] 0 0 := Stand.of_body Bd
  have e0 : s₁.heap = h0 := by rw [← hh, Bd.state]; rfl
  have N0 := Fr.nil n0
  refine (?_ : own_Fin p e below _ _)
  refine own_st (fun t k => castTop (ef_1_I m (15 : Int32)) k) ?_
  show own_Fin p e below _ (s₁.setTop (mkF m 0 #[.val (.int (15 : Int32))] []))
  refine own_st (fun t k => XS.iloadN X0.here hx rfl (hb hby d1_0) rfl k) ?_
  show own_Fin p e below _ (s₁.setTop (mkF m 1 #[.val (.int (15 : Int32))] [(.int (15 : Int32))]))
  refine own_st (fun t k => XS.tswIn X0.here hx rfl (pc0 := 1) (pc' := 152) rfl (hb hby d1_1) rfl (by decide) (o := 151) (by decide) (by decide) (by decide) k) ?_
  show own_Fin p e below _ (s₁.setTop (mkF m 152 #[.val (.int (15 : Int32))] []))
  obtain ⟨T1, X1, e1, st1⟩ := getS2 X0 hx hZ hown (host := "") (Or.inl (hw _ (List.mem_of_getElem? (i := 56) rfl))) Via.refl e0 S_ENDING_WITH (g := (mkF m 152 #[.val (.int (15 : Int32))] [])) rfl (hb hby d1_152)
  refine own_st st1 ?_
  show own_Fin p e below _ (T1.setTop (mkF m 155 #[.val (.int (15 : Int32))] [(.ref w_ENDING_WITH)]))
  obtain ⟨fs, hr, hrun, hended, hW, hsame⟩ := X1.leave (v := some (.ref w_ENDING_WITH)) (fun h => by rw [Bd.returns] at h; cases h)
  exact ⟨_, _, retOut X1 hx (t := (.object "com/example/rootward/rootward/jdbc/Condition$Operator")) Bd.returns rfl (Or.inr (Or.inr (Or.inr (Or.inr ⟨rfl, rfl, rfl⟩)))) (hb hby d1_155) hr, hrun, hended, _, _, rfl, ⟨rfl, N0, e1⟩, ⟨_, rfl⟩, hW, hsame.mono (by decide) (by decide)⟩
set_option maxRecDepth 65536 in
set_option maxHeartbeats 40000000 in
theorem rm2_w_ENDING_WITH (l : Launch) (Z : State) (a0 : Array Value) (hw : ∀ d ∈ tables_1, d.before a0 Z = true) (ws : List Jvm.Cond) (w_EQUAL w_IS_TRUE w_IS_FALSE w_GREATER_THAN_OR_EQUAL w_IS_NULL w_IS_NOT_NULL w_STARTING_WITH w_NOT_BETWEEN w_GREATER_THAN w_IN w_NOT_EQUAL w_NOT_IN w_ENDING_WITH w_BETWEEN w_NOT_CONTAINING w_CONTAINING w_LIKE w_LESS_THAN_OR_EQUAL w_LESS_THAN w_NOT_LIKE : Addr) (h0 : Heap) (n0 : Nat) (PN : own_Pins Z h0 w_EQUAL w_IS_TRUE w_IS_FALSE w_GREATER_THAN_OR_EQUAL w_IS_NULL w_IS_NOT_NULL w_STARTING_WITH w_NOT_BETWEEN w_GREATER_THAN w_IN w_NOT_EQUAL w_NOT_IN w_ENDING_WITH w_BETWEEN w_NOT_CONTAINING w_CONTAINING w_LIKE w_LESS_THAN_OR_EQUAL w_LESS_THAN w_NOT_LIKE) :
    MetFree l (⟨"com/example/rootward/rootward/jdbc/Condition$Operator", "testsTruth", "()Z"⟩ : MethodName) (head1 (Jvm.Cond.code (⟨"com/example/rootward/rootward/jdbc/Condition$Operator", "testsTruth", "()Z"⟩ : MethodName) prog_32_method_8_code 1 (some .boolean) :: ws) ({ frames := 0, cells := 0, slots := 0, locals := 0 } : Room)) (fun a U => a = #[(.ref w_ENDING_WITH)] ∧ Z.Warmed39 U.vm ∧ U.heap = h0) (fun _ _ _ _ _ => True) (fun _ U o U' => ∃ v L, o = .returned v ∧ own_Q h0 n0 (some (.int (0 : Int32))) v U'.heap L ∧ FrameEnd U o U' L ({ frames := 0, cells := 0, slots := 0, locals := 0 } : Room).cells ({ frames := 0, cells := 0, slots := 0, locals := 0 } : Room).slots) := by
  have S_IS_TRUE : Sta Z h0 "com/example/rootward/rootward/jdbc/Condition$Operator" "IS_TRUE" "Lcom/example/rootward/rootward/jdbc/Condition$Operator;" (.ref w_IS_TRUE) := PN.2.2.1
  have S_IS_FALSE : Sta Z h0 "com/example/rootward/rootward/jdbc/Condition$Operator" "IS_FALSE" "Lcom/example/rootward/rootward/jdbc/Condition$Operator;" (.ref w_IS_FALSE) := PN.2.2.2.2.1
  have F_IS_TRUE_ordinal : Fld Z h0 w_IS_TRUE "java/lang/Enum" "ordinal" "I" (.int 18) := PN.2.2.2.2.2.2.2.2.2.2.2.2.2.2.2.2.2.2.2.2.2.2.2.2.2.2.2.2.2.2.2.2.2.2.2.2.2.2.2.2.2.1
  have F_IS_FALSE_ordinal : Fld Z h0 w_IS_FALSE "java/lang/Enum" "ordinal" "I" (.int 19) := PN.2.2.2.2.2.2.2.2.2.2.2.2.2.2.2.2.2.2.2.2.2.2.2.2.2.2.2.2.2.2.2.2.2.2.2.2.2.2.2.2.2.2.1
  have F_ENDING_WITH_ordinal : Fld Z h0 w_ENDING_WITH "java/lang/Enum" "ordinal" "I" (.int 15) := PN.2.2.2.2.2.2.2.2.2.2.2.2.2.2.2.2.2.2.2.2.2.2.2.2.2.2.2.2.2.2.2.2.2.2.2.2.2.2.2.2.2.2.2.2.2.2.2.2.2.2.2.2.2.2.1
  refine MetFree.of_bodySF (plainFor_of_name pn_com_example_rootward_rootward_jdbc_Condition_Operator) hisR ?_
  intro p e s m args below meth c s₁ Bd hml0 hP hK
  obtain ⟨rfl, hZ, hh⟩ := hP
  have hx := Bd.exec
  have hby := Bd.bytes
  have hml : c.maxLocals = 1 := hml0
  have hown : s.vm.findClass "com/example/rootward/rootward/jdbc/Condition$Operator" = some m.cls := findClass_of_methodNamed Bd.named
  have X0 : Stand p l e ({ frames := 0, cells := 0, slots := 0, locals := 0 } : Room) s m #[(.ref w_ENDING_WITH)] below meth c s₁ [] 0 0 := Stand.of_body Bd
  have e0 : s₁.heap = h0 := by rw [← hh, Bd.state]; rfl
  have N0 := Fr.nil n0
  refine (?_ : own_Fin p e below _ _)
  refine own_st (fun t k => castTop (ef_2_R m w_ENDING_WITH) k) ?_
  show own_Fin p e below _ (s₁.setTop (mkF m 0 #[.val (.ref w_ENDING_WITH)] []))
  refine own_st (fun t k => XS.aloadN X0.here hx rfl (hb hby d2_0) rfl rfl k) ?_
  show own_Fin p e below _ (s₁.setTop (mkF m 1 #[.val (.ref w_ENDING_WITH)] [(.ref w_ENDING_WITH)]))
  obtain ⟨T1, X1, e1, st1⟩ := getS2 X0 hx hZ hown (host := "") (Or.inl (hw _ (List.mem_of_getElem? (i := 13) rfl))) Via.refl e0 S_IS_TRUE (g := (mkF m 1 #[.val (.ref w_ENDING_WITH)] [(.ref w_ENDING_WITH)])) rfl (hb hby d2_1)
  refine own_st st1 ?_
  show own_Fin p e below _ (T1.setTop (mkF m 4 #[.val (.ref w_ENDING_WITH)] [(.ref w_IS_TRUE), (.ref w_ENDING_WITH)]))
  refine own_st (fun t k => Jvm.RoadKit.acmp (g := (mkF m 4 #[.val (.ref w_ENDING_WITH)] [(.ref w_IS_TRUE), (.ref w_ENDING_WITH)])) X1 hx rfl rfl rfl (pc0 := 4) (pc' := 7) (same := false) rfl (hb hby d2_4) rfl (decide_eq_false fun q => (Fld.ne F_ENDING_WITH_ordinal F_IS_TRUE_ordinal (by simp)) (Value.ref.inj q)) (by decide) (by decide) k) ?_
  show own_Fin p e below _ (T1.setTop (mkF m 7 #[.val (.ref w_ENDING_WITH)] []))
  refine own_st (fun t k => XS.aloadN X1.here hx rfl (hb hby d2_7) rfl rfl k) ?_
  show own_Fin p e below _ (T1.setTop (mkF m 8 #[.val (.ref w_ENDING_WITH)] [(.ref w_ENDING_WITH)]))
  obtain ⟨T2, X2, e2, st2⟩ := getS2 X1 hx hZ hown (host := "") (Or.inl (hw _ (List.mem_of_getElem? (i := 15) rfl))) Via.refl e1 S_IS_FALSE (g := (mkF m 8 #[.val (.ref w_ENDING_WITH)] [(.ref w_ENDING_WITH)])) rfl (hb hby d2_8)
  refine own_st st2 ?_
  show own_Fin p e below _ (T2.setTop (mkF m 11 #[.val (.ref w_ENDING_WITH)] [(.ref w_IS_FALSE), (.ref w_ENDING_WITH)]))
  refine own_st (fun t k => Jvm.RoadKit.acmp (g := (mkF m 11 #[.val (.ref w_ENDING_WITH)] [(.ref w_IS_FALSE), (.ref w_ENDING_WITH)])) X2 hx rfl rfl rfl (pc0 := 11) (pc' := 18) (same := false) rfl (hb hby d2_11) rfl (decide_eq_false fun q => (Fld.ne F_ENDING_WITH_ordinal F_IS_FALSE_ordinal (by simp)) (Value.ref.inj q)) (by decide) (by decide) k) ?_
  show own_Fin p e below _ (T2.setTop (mkF m 18 #[.val (.ref w_ENDING_WITH)] []))
  refine own_st (fun t k => XS.iconst X2.here hx rfl (hb hby d2_18) k) ?_
  show own_Fin p e below _ (T2.setTop (mkF m 19 #[.val (.ref w_ENDING_WITH)] [(.int (0 : Int32))]))
  obtain ⟨fs, hr, hrun, hended, hW, hsame⟩ := X2.leave (v := some (.int (0 : Int32))) (fun h => by rw [Bd.returns] at h; cases h)
  exact ⟨_, _, retN X2 hx (t := .boolean) Bd.returns (by simp) (hb hby d2_19) hr, hrun, hended, _, _, rfl, ⟨rfl, N0, e2⟩, ⟨_, rfl⟩, hW, hsame.mono (by decide) (by decide)⟩
set_option maxRecDepth 65536 in
set_option maxHeartbeats 40000000 in
theorem rm0_c15 (l : Launch) (Z : State) (a0 : Array Value) (hw : ∀ d ∈ tables_1, d.before a0 Z = true) (ws : List Jvm.Cond) (w_EQUAL w_IS_TRUE w_IS_FALSE w_GREATER_THAN_OR_EQUAL w_IS_NULL w_IS_NOT_NULL w_STARTING_WITH w_NOT_BETWEEN w_GREATER_THAN w_IN w_NOT_EQUAL w_NOT_IN w_ENDING_WITH w_BETWEEN w_NOT_CONTAINING w_CONTAINING w_LIKE w_LESS_THAN_OR_EQUAL w_LESS_THAN w_NOT_LIKE : Addr) (p0 : Int32) (h0 : Heap) (n0 : Nat) (PN : own_Pins Z h0 w_EQUAL w_IS_TRUE w_IS_FALSE w_GREATER_THAN_OR_EQUAL w_IS_NULL w_IS_NOT_NULL w_STARTING_WITH w_NOT_BETWEEN w_GREATER_THAN w_IN w_NOT_EQUAL w_NOT_IN w_ENDING_WITH w_BETWEEN w_NOT_CONTAINING w_CONTAINING w_LIKE w_LESS_THAN_OR_EQUAL w_LESS_THAN w_NOT_LIKE) (q0 : ((p0 &&& (2147483647 : Int32)) % (20 : Int32)) = (15 : Int32)) :
    MetFree l x (head1 (Jvm.Cond.code x code maxLocals ret :: ws) room_1) (fun a U => a = #[(.int p0)] ∧ Z.Warmed39 U.vm ∧ U.heap = h0) (fun _ _ _ _ _ => True) (fun _ U o U' => ∃ v L, o = .returned v ∧ own_Q h0 n0 (some (.int (1 : Int32))) v U'.heap L ∧ FrameEnd U o U' L room_1.cells room_1.slots) := by
  have E_ENDING_WITH : Exa Z h0 w_ENDING_WITH "com/example/rootward/rootward/jdbc/Condition$Operator" := PN.2.2.2.2.2.2.2.2.2.2.2.2.2.2.2.2.2.2.2.2.2.2.2.2.2.1
  refine MetFree.of_bodySF (plainFor_of_name pn_com_example_rootward_rootward_jdbc_OperatorTestsTruthPinLaw) hisR ?_
  intro p e s m args below meth c s₁ Bd hml0 hP hK
  obtain ⟨rfl, hZ, hh⟩ := hP
  have hx := Bd.exec
  have hby := Bd.bytes
  have hml : c.maxLocals = 5 := hml0
  have hown : s.vm.findClass "com/example/rootward/rootward/jdbc/OperatorTestsTruthPinLaw" = some m.cls := findClass_of_methodNamed Bd.named
  have X0 : Stand p l e room_1 s m #[(.int p0)] below meth c s₁ [] 0 0 := Stand.of_body Bd
  have e0 : s₁.heap = h0 := by rw [← hh, Bd.state]; rfl
  have N0 := Fr.nil n0
  refine (?_ : own_Fin p e below _ _)
  refine own_st (fun t k => castTop (ef_0_I m p0) k) ?_
  show own_Fin p e below _ (s₁.setTop (mkF m 0 #[.val (.int p0), .unset, .unset, .unset, .unset] []))
  refine own_st (fun t k => XS.iloadN X0.here hx rfl (hb hby at_0) rfl k) ?_
  show own_Fin p e below _ (s₁.setTop (mkF m 1 #[.val (.int p0), .unset, .unset, .unset, .unset] [(.int p0)]))
  refine own_st (fun t k => X0.ldcI hx hown (mvT hZ (hw _ (List.mem_of_getElem? (i := 0) rfl))) rfl (hb hby at_1) k) ?_
  show own_Fin p e below _ (s₁.setTop (mkF m 3 #[.val (.int p0), .unset, .unset, .unset, .unset] [(.int (2147483647 : Int32)), (.int p0)]))
  refine own_st (fun t k => XS.iand X0.here hx rfl (hb hby at_3) rfl k) ?_
  show own_Fin p e below _ (s₁.setTop (mkF m 4 #[.val (.int p0), .unset, .unset, .unset, .unset] [(.int (p0 &&& (2147483647 : Int32)))]))
  refine own_st (fun t k => XS.bipush X0.here hx rfl (hb hby at_4) k) ?_
  show own_Fin p e below _ (s₁.setTop (mkF m 6 #[.val (.int p0), .unset, .unset, .unset, .unset] [(.int (20 : Int32)), (.int (p0 &&& (2147483647 : Int32)))]))
  refine own_st (fun t k => iremM X0 hx rfl (hb hby at_6) rfl (by decide) k) ?_
  show own_Fin p e below _ (s₁.setTop (mkF m 7 #[.val (.int p0), .unset, .unset, .unset, .unset] [(.int ((p0 &&& (2147483647 : Int32)) % (20 : Int32)))]))
  rw [q0]
  show own_Fin p e below _ (s₁.setTop (mkF m 7 #[.val (.int p0), .unset, .unset, .unset, .unset] [(.int (15 : Int32))]))
  refine own_st (fun t k => XS.istoreN X0.here hx rfl (hb hby at_7) rfl (l' := #[.val (.int p0), .val (.int (15 : Int32)), .unset, .unset, .unset]) rfl k) ?_
  show own_Fin p e below _ (s₁.setTop (mkF m 8 #[.val (.int p0), .val (.int (15 : Int32)), .unset, .unset, .unset] []))
  refine own_st (fun t k => XS.iloadN X0.here hx rfl (hb hby at_8) rfl k) ?_
  show own_Fin p e below _ (s₁.setTop (mkF m 9 #[.val (.int p0), .val (.int (15 : Int32)), .unset, .unset, .unset] [(.int (15 : Int32))]))
  obtain ⟨_, _, ⟨T1, L1, k1, n1⟩, -, X1, ⟨Lc1, hQ1, l1, y1, z1⟩, st1⟩ := Jvm.LawKit.callS X0 hx (y := (⟨"com/example/rootward/rootward/jdbc/OperatorTestsTruthPinLaw", "pick", "(I)Lcom/example/rootward/rootward/jdbc/Condition$Operator;"⟩ : MethodName)) hown (mvT hZ (hw _ (List.mem_of_getElem? (i := 1) rfl))) (mvT hZ (hw _ (List.mem_of_getElem? (i := 2) rfl))) (mvT hZ (hw _ (List.mem_of_getElem? (i := 3) rfl))) (mvT hZ (hw _ (List.mem_of_getElem? (i := 4) rfl))) (by decide) (backOf (W := 0) (rm1_15 l Z a0 hw [] w_EQUAL w_IS_TRUE w_IS_FALSE w_GREATER_THAN_OR_EQUAL w_IS_NULL w_IS_NOT_NULL w_STARTING_WITH w_NOT_BETWEEN w_GREATER_THAN w_IN w_NOT_EQUAL w_NOT_IN w_ENDING_WITH w_BETWEEN w_NOT_CONTAINING w_CONTAINING w_LIKE w_LESS_THAN_OR_EQUAL w_LESS_THAN w_NOT_LIKE h0 n0 PN) hZ (hw _ (List.mem_of_getElem? (i := 4) rfl)) (hw _ (List.mem_of_getElem? (i := 3) rfl)) (by decide) (by decide)) (g := (mkF m 9 #[.val (.int p0), .val (.int (15 : Int32)), .unset, .unset, .unset] [(.int (15 : Int32))])) rfl (by rw [hml]; rfl) (argsL := [(.int (15 : Int32))]) (rest := []) (lenOf pd__I_Lcom_example_rootward_rootward_jdbc_Condition_Operator_ rfl) rfl (by show 2 * 0 + _ ≤ _; exact Nat.le_of_eq rfl) (hb hby at_9) (fun _ _ => ⟨rfl, e0, (by decide : 0 + 0 ≤ _), (by decide : 0 + 0 ≤ _)⟩)
  dsimp only [Pt.U, Pt.locs, Pt.cells, Pt.slots] at X1 l1 y1 z1 st1 hQ1
  subst l1 y1 z1
  obtain ⟨rfl, N1q, e1⟩ := hQ1
  have N1 := Fr.app N0 N1q
  refine own_st st1 ?_
  show own_Fin p e below _ (T1.setTop (mkF m 12 #[.val (.int p0), .val (.int (15 : Int32)), .unset, .unset, .unset] [(.ref w_ENDING_WITH)]))
  refine own_st (fun t k => XS.astoreN X1.here hx rfl (hb hby at_12) rfl rfl (l' := #[.val (.int p0), .val (.int (15 : Int32)), .val (.ref w_ENDING_WITH), .unset, .unset]) rfl k) ?_
  show own_Fin p e below _ (T1.setTop (mkF m 13 #[.val (.int p0), .val (.int (15 : Int32)), .val (.ref w_ENDING_WITH), .unset, .unset] []))
  refine own_st (fun t k => XS.iloadN X1.here hx rfl (hb hby at_13) rfl k) ?_
  show own_Fin p e below _ (T1.setTop (mkF m 14 #[.val (.int p0), .val (.int (15 : Int32)), .val (.ref w_ENDING_WITH), .unset, .unset] [(.int (15 : Int32))]))
  refine own_st (fun t k => XS.bipush X1.here hx rfl (hb hby at_14) k) ?_
  show own_Fin p e below _ (T1.setTop (mkF m 16 #[.val (.int p0), .val (.int (15 : Int32)), .val (.ref w_ENDING_WITH), .unset, .unset] [(.int (18 : Int32)), (.int (15 : Int32))]))
  refine own_st (fun t k => XS.icmpNo X1.here hx rfl (hb hby at_16) rfl (by decide) k) ?_
  show own_Fin p e below _ (T1.setTop (mkF m 19 #[.val (.int p0), .val (.int (15 : Int32)), .val (.ref w_ENDING_WITH), .unset, .unset] []))
  refine own_st (fun t k => XS.iloadN X1.here hx rfl (hb hby at_19) rfl k) ?_
  show own_Fin p e below _ (T1.setTop (mkF m 20 #[.val (.int p0), .val (.int (15 : Int32)), .val (.ref w_ENDING_WITH), .unset, .unset] [(.int (15 : Int32))]))
  refine own_st (fun t k => XS.bipush X1.here hx rfl (hb hby at_20) k) ?_
  show own_Fin p e below _ (T1.setTop (mkF m 22 #[.val (.int p0), .val (.int (15 : Int32)), .val (.ref w_ENDING_WITH), .unset, .unset] [(.int (19 : Int32)), (.int (15 : Int32))]))
  refine own_st (fun t k => XS.icmpYes X1.here hx rfl (pc0 := 22) (pc' := 29) rfl (hb hby at_22) rfl (by decide) (by decide) (by decide) k) ?_
  show own_Fin p e below _ (T1.setTop (mkF m 29 #[.val (.int p0), .val (.int (15 : Int32)), .val (.ref w_ENDING_WITH), .unset, .unset] []))
  refine own_st (fun t k => XS.iconst X1.here hx rfl (hb hby at_29) k) ?_
  show own_Fin p e below _ (T1.setTop (mkF m 30 #[.val (.int p0), .val (.int (15 : Int32)), .val (.ref w_ENDING_WITH), .unset, .unset] [(.int (0 : Int32))]))
  refine own_st (fun t k => XS.istoreN X1.here hx rfl (hb hby at_30) rfl (l' := #[.val (.int p0), .val (.int (15 : Int32)), .val (.ref w_ENDING_WITH), .val (.int (0 : Int32)), .unset]) rfl k) ?_
  show own_Fin p e below _ (T1.setTop (mkF m 31 #[.val (.int p0), .val (.int (15 : Int32)), .val (.ref w_ENDING_WITH), .val (.int (0 : Int32)), .unset] []))
  refine own_st (fun t k => XS.aloadN X1.here hx rfl (hb hby at_31) rfl rfl k) ?_
  show own_Fin p e below _ (T1.setTop (mkF m 32 #[.val (.int p0), .val (.int (15 : Int32)), .val (.ref w_ENDING_WITH), .val (.int (0 : Int32)), .unset] [(.ref w_ENDING_WITH)]))
  obtain ⟨cq2, kq2, q2a, q2b, q2c⟩ := isOf hZ e1 E_ENDING_WITH
  obtain ⟨_, _, ⟨T2, L2, k2, n2⟩, -, X2, ⟨Lc2, hQ2, l2, y2, z2⟩, st2⟩ := X1.virtualBack hx (y := (⟨"com/example/rootward/rootward/jdbc/Condition$Operator", "testsTruth", "()Z"⟩ : MethodName)) (z := (⟨"com/example/rootward/rootward/jdbc/Condition$Operator", "testsTruth", "()Z"⟩ : MethodName)) hown (mvT hZ (hw _ (List.mem_of_getElem? (i := 8) rfl))) (mvT hZ (hw _ (List.mem_of_getElem? (i := 9) rfl))) (notFace_of_selects (args := #[]) (mvT hZ (hw _ (List.mem_of_getElem? (i := 11) rfl)))) (mvT hZ (hw _ (List.mem_of_getElem? (i := 11) rfl))) (mvT hZ (hw _ (List.mem_of_getElem? (i := 10) rfl))) (by decide) (backOf (W := 0) (rm2_w_ENDING_WITH l Z a0 hw [] w_EQUAL w_IS_TRUE w_IS_FALSE w_GREATER_THAN_OR_EQUAL w_IS_NULL w_IS_NOT_NULL w_STARTING_WITH w_NOT_BETWEEN w_GREATER_THAN w_IN w_NOT_EQUAL w_NOT_IN w_ENDING_WITH w_BETWEEN w_NOT_CONTAINING w_CONTAINING w_LIKE w_LESS_THAN_OR_EQUAL w_LESS_THAN w_NOT_LIKE h0 n0 PN) hZ (hw _ (List.mem_of_getElem? (i := 12) rfl)) (hw _ (List.mem_of_getElem? (i := 6) rfl)) (by decide) (by decide)) q2a q2c (g := (mkF m 32 #[.val (.int p0), .val (.int (15 : Int32)), .val (.ref w_ENDING_WITH), .val (.int (0 : Int32)), .unset] [(.ref w_ENDING_WITH)])) rfl (by rw [hml]; rfl) (Steps.refl _) (argsL := []) (rest := []) (lenOf pd___Z rfl) rfl (by show 2 * 0 + _ ≤ _; exact Nat.le_of_eq rfl) (hb hby at_32) (fun _ _ => ⟨rfl, e1, (by decide : 0 + 0 ≤ _), (by decide : 0 + 0 ≤ _)⟩)
  dsimp only [Pt.U, Pt.locs, Pt.cells, Pt.slots] at X2 l2 y2 z2 st2 hQ2
  subst l2 y2 z2
  obtain ⟨rfl, N2q, e2⟩ := hQ2
  have N2 := Fr.app N1 N2q
  refine own_tr st2 ?_
  show own_Fin p e below _ (T2.setTop (mkF m 35 #[.val (.int p0), .val (.int (15 : Int32)), .val (.ref w_ENDING_WITH), .val (.int (0 : Int32)), .unset] [(.int (0 : Int32))]))
  refine own_st (fun t k => XS.istore X2.here hx rfl (hb hby at_35) rfl (l' := #[.val (.int p0), .val (.int (15 : Int32)), .val (.ref w_ENDING_WITH), .val (.int (0 : Int32)), .val (.int (0 : Int32))]) rfl k) ?_
  show own_Fin p e below _ (T2.setTop (mkF m 37 #[.val (.int p0), .val (.int (15 : Int32)), .val (.ref w_ENDING_WITH), .val (.int (0 : Int32)), .val (.int (0 : Int32))] []))
  refine own_st (fun t k => XS.iload X2.here hx rfl (hb hby at_37) rfl k) ?_
  show own_Fin p e below _ (T2.setTop (mkF m 39 #[.val (.int p0), .val (.int (15 : Int32)), .val (.ref w_ENDING_WITH), .val (.int (0 : Int32)), .val (.int (0 : Int32))] [(.int (0 : Int32))]))
  refine own_st (fun t k => XS.iloadN X2.here hx rfl (hb hby at_39) rfl k) ?_
  show own_Fin p e below _ (T2.setTop (mkF m 40 #[.val (.int p0), .val (.int (15 : Int32)), .val (.ref w_ENDING_WITH), .val (.int (0 : Int32)), .val (.int (0 : Int32))] [(.int (0 : Int32)), (.int (0 : Int32))]))
  refine own_st (fun t k => XS.icmpYes X2.here hx rfl (pc0 := 40) (pc' := 45) rfl (hb hby at_40) rfl (by decide) (by decide) (by decide) k) ?_
  show own_Fin p e below _ (T2.setTop (mkF m 45 #[.val (.int p0), .val (.int (15 : Int32)), .val (.ref w_ENDING_WITH), .val (.int (0 : Int32)), .val (.int (0 : Int32))] []))
  refine own_st (fun t k => XS.iload X2.here hx rfl (hb hby at_45) rfl k) ?_
  show own_Fin p e below _ (T2.setTop (mkF m 47 #[.val (.int p0), .val (.int (15 : Int32)), .val (.ref w_ENDING_WITH), .val (.int (0 : Int32)), .val (.int (0 : Int32))] [(.int (0 : Int32))]))
  refine own_st (fun t k => XS.ifYes X2.here hx rfl (pc0 := 47) (pc' := 73) rfl (hb hby at_47) rfl (by decide) (by decide) (by decide) k) ?_
  show own_Fin p e below _ (T2.setTop (mkF m 73 #[.val (.int p0), .val (.int (15 : Int32)), .val (.ref w_ENDING_WITH), .val (.int (0 : Int32)), .val (.int (0 : Int32))] []))
  refine own_st (fun t k => XS.iconst X2.here hx rfl (hb hby at_73) k) ?_
  show own_Fin p e below _ (T2.setTop (mkF m 74 #[.val (.int p0), .val (.int (15 : Int32)), .val (.ref w_ENDING_WITH), .val (.int (0 : Int32)), .val (.int (0 : Int32))] [(.int (1 : Int32))]))
  obtain ⟨fs, hr, hrun, hended, hW, hsame⟩ := X2.leave (v := some (.int (1 : Int32))) (fun h => by rw [Bd.returns] at h; cases h)
  exact ⟨_, _, retN X2 hx (t := .boolean) Bd.returns (by simp) (hb hby at_74) hr, hrun, hended, _, _, rfl, ⟨rfl, N2, e2⟩, ⟨_, rfl⟩, hW, hsame.mono (by decide) (by decide)⟩
theorem d1_156 : decode method_2_code 156 = .ok (.getstatic 58, 3) := by decide +kernel
theorem d1_159 : decode method_2_code 159 = .ok (.areturn, 1) := by decide +kernel
set_option maxRecDepth 65536 in
set_option maxHeartbeats 40000000 in
theorem rm1_16 (l : Launch) (Z : State) (a0 : Array Value) (hw : ∀ d ∈ tables_1, d.before a0 Z = true) (ws : List Jvm.Cond) (w_EQUAL w_IS_TRUE w_IS_FALSE w_GREATER_THAN_OR_EQUAL w_IS_NULL w_IS_NOT_NULL w_STARTING_WITH w_NOT_BETWEEN w_GREATER_THAN w_IN w_NOT_EQUAL w_NOT_IN w_ENDING_WITH w_BETWEEN w_NOT_CONTAINING w_CONTAINING w_LIKE w_LESS_THAN_OR_EQUAL w_LESS_THAN w_NOT_LIKE : Addr) (h0 : Heap) (n0 : Nat) (PN : own_Pins Z h0 w_EQUAL w_IS_TRUE w_IS_FALSE w_GREATER_THAN_OR_EQUAL w_IS_NULL w_IS_NOT_NULL w_STARTING_WITH w_NOT_BETWEEN w_GREATER_THAN w_IN w_NOT_EQUAL w_NOT_IN w_ENDING_WITH w_BETWEEN w_NOT_CONTAINING w_CONTAINING w_LIKE w_LESS_THAN_OR_EQUAL w_LESS_THAN w_NOT_LIKE) :
    MetFree l (⟨"com/example/rootward/rootward/jdbc/OperatorTestsTruthPinLaw", "pick", "(I)Lcom/example/rootward/rootward/jdbc/Condition$Operator;"⟩ : MethodName) (head1 (Jvm.Cond.code (⟨"com/example/rootward/rootward/jdbc/OperatorTestsTruthPinLaw", "pick", "(I)Lcom/example/rootward/rootward/jdbc/Condition$Operator;"⟩ : MethodName) method_2_code 1 (some (.object "com/example/rootward/rootward/jdbc/Condition$Operator")) :: ws) ({ frames := 0, cells := 0, slots := 0, locals := 0 } : Room)) (fun a U => a = #[(.int (16 : Int32))] ∧ Z.Warmed39 U.vm ∧ U.heap = h0) (fun _ _ _ _ _ => True) (fun _ U o U' => ∃ v L, o = .returned v ∧ own_Q h0 n0 (some (.ref w_CONTAINING)) v U'.heap L ∧ FrameEnd U o U' L ({ frames := 0, cells := 0, slots := 0, locals := 0 } : Room).cells ({ frames := 0, cells := 0, slots := 0, locals := 0 } : Room).slots) := by
  have S_CONTAINING : Sta Z h0 "com/example/rootward/rootward/jdbc/Condition$Operator" "CONTAINING" "Lcom/example/rootward/rootward/jdbc/Condition$Operator;" (.ref w_CONTAINING) := PN.2.2.2.2.2.2.2.2.2.2.2.2.2.2.2.2.2.2.2.2.2.2.2.2.2.2.2.2.2.2.1
  refine MetFree.of_bodySF (plainFor_of_name pn_com_example_rootward_rootward_jdbc_OperatorTestsTruthPinLaw) hisR ?_
  intro p e s m args below meth c s₁ Bd hml0 hP hK
  obtain ⟨rfl, hZ, hh⟩ := hP
  have hx := Bd.exec
  have hby := Bd.bytes
  have hml : c.maxLocals = 1 := hml0
  have hown : s.vm.findClass "com/example/rootward/rootward/jdbc/OperatorTestsTruthPinLaw" = some m.cls := findClass_of_methodNamed Bd.named
  have X0 : Stand p l e ({ frames := 0, cells := 0, slots := 0, locals := 0 } : Room) s m #[(.int (16 : Int32))] below meth c s₁ [] 0 0 := Stand.of_body Bd
  have e0 : s₁.heap = h0 := by rw [← hh, Bd.state]; rfl
  have N0 := Fr.nil n0
  refine (?_ : own_Fin p e below _ _)
  refine own_st (fun t k => castTop (ef_1_I m (16 : Int32)) k) ?_
  show own_Fin p e below _ (s₁.setTop (mkF m 0 #[.val (.int (16 : Int32))] []))
  refine own_st (fun t k => XS.iloadN X0.here hx rfl (hb hby d1_0) rfl k) ?_
  show own_Fin p e below _ (s₁.setTop (mkF m 1 #[.val (.int (16 : Int32))] [(.int (16 : Int32))]))
  refine own_st (fun t k => XS.tswIn X0.here hx rfl (pc0 := 1) (pc' := 156) rfl (hb hby d1_1) rfl (by decide) (o := 155) (by decide) (by decide) (by decide) k) ?_
  show own_Fin p e below _ (s₁.setTop (mkF m 156 #[.val (.int (16 : Int32))] []))
  obtain ⟨T1, X1, e1, st1⟩ := getS2 X0 hx hZ hown (host := "") (Or.inl (hw _ (List.mem_of_getElem? (i := 62) rfl))) Via.refl e0 S_CONTAINING (g := (mkF m 156 #[.val (.int (16 : Int32))] [])) rfl (hb hby d1_156)
  refine own_st st1 ?_
  show own_Fin p e below _ (T1.setTop (mkF m 159 #[.val (.int (16 : Int32))] [(.ref w_CONTAINING)]))
  obtain ⟨fs, hr, hrun, hended, hW, hsame⟩ := X1.leave (v := some (.ref w_CONTAINING)) (fun h => by rw [Bd.returns] at h; cases h)
  exact ⟨_, _, retOut X1 hx (t := (.object "com/example/rootward/rootward/jdbc/Condition$Operator")) Bd.returns rfl (Or.inr (Or.inr (Or.inr (Or.inr ⟨rfl, rfl, rfl⟩)))) (hb hby d1_159) hr, hrun, hended, _, _, rfl, ⟨rfl, N0, e1⟩, ⟨_, rfl⟩, hW, hsame.mono (by decide) (by decide)⟩
set_option maxRecDepth 65536 in
set_option maxHeartbeats 40000000 in
theorem rm2_w_CONTAINING (l : Launch) (Z : State) (a0 : Array Value) (hw : ∀ d ∈ tables_1, d.before a0 Z = true) (ws : List Jvm.Cond) (w_EQUAL w_IS_TRUE w_IS_FALSE w_GREATER_THAN_OR_EQUAL w_IS_NULL w_IS_NOT_NULL w_STARTING_WITH w_NOT_BETWEEN w_GREATER_THAN w_IN w_NOT_EQUAL w_NOT_IN w_ENDING_WITH w_BETWEEN w_NOT_CONTAINING w_CONTAINING w_LIKE w_LESS_THAN_OR_EQUAL w_LESS_THAN w_NOT_LIKE : Addr) (h0 : Heap) (n0 : Nat) (PN : own_Pins Z h0 w_EQUAL w_IS_TRUE w_IS_FALSE w_GREATER_THAN_OR_EQUAL w_IS_NULL w_IS_NOT_NULL w_STARTING_WITH w_NOT_BETWEEN w_GREATER_THAN w_IN w_NOT_EQUAL w_NOT_IN w_ENDING_WITH w_BETWEEN w_NOT_CONTAINING w_CONTAINING w_LIKE w_LESS_THAN_OR_EQUAL w_LESS_THAN w_NOT_LIKE) :
    MetFree l (⟨"com/example/rootward/rootward/jdbc/Condition$Operator", "testsTruth", "()Z"⟩ : MethodName) (head1 (Jvm.Cond.code (⟨"com/example/rootward/rootward/jdbc/Condition$Operator", "testsTruth", "()Z"⟩ : MethodName) prog_32_method_8_code 1 (some .boolean) :: ws) ({ frames := 0, cells := 0, slots := 0, locals := 0 } : Room)) (fun a U => a = #[(.ref w_CONTAINING)] ∧ Z.Warmed39 U.vm ∧ U.heap = h0) (fun _ _ _ _ _ => True) (fun _ U o U' => ∃ v L, o = .returned v ∧ own_Q h0 n0 (some (.int (0 : Int32))) v U'.heap L ∧ FrameEnd U o U' L ({ frames := 0, cells := 0, slots := 0, locals := 0 } : Room).cells ({ frames := 0, cells := 0, slots := 0, locals := 0 } : Room).slots) := by
  have S_IS_TRUE : Sta Z h0 "com/example/rootward/rootward/jdbc/Condition$Operator" "IS_TRUE" "Lcom/example/rootward/rootward/jdbc/Condition$Operator;" (.ref w_IS_TRUE) := PN.2.2.1
  have S_IS_FALSE : Sta Z h0 "com/example/rootward/rootward/jdbc/Condition$Operator" "IS_FALSE" "Lcom/example/rootward/rootward/jdbc/Condition$Operator;" (.ref w_IS_FALSE) := PN.2.2.2.2.1
  have F_IS_TRUE_ordinal : Fld Z h0 w_IS_TRUE "java/lang/Enum" "ordinal" "I" (.int 18) := PN.2.2.2.2.2.2.2.2.2.2.2.2.2.2.2.2.2.2.2.2.2.2.2.2.2.2.2.2.2.2.2.2.2.2.2.2.2.2.2.2.2.1
  have F_IS_FALSE_ordinal : Fld Z h0 w_IS_FALSE "java/lang/Enum" "ordinal" "I" (.int 19) := PN.2.2.2.2.2.2.2.2.2.2.2.2.2.2.2.2.2.2.2.2.2.2.2.2.2.2.2.2.2.2.2.2.2.2.2.2.2.2.2.2.2.2.1
  have F_CONTAINING_ordinal : Fld Z h0 w_CONTAINING "java/lang/Enum" "ordinal" "I" (.int 16) := PN.2.2.2.2.2.2.2.2.2.2.2.2.2.2.2.2.2.2.2.2.2.2.2.2.2.2.2.2.2.2.2.2.2.2.2.2.2.2.2.2.2.2.2.2.2.2.2.2.2.2.2.2.2.2.2.2.2.1
  refine MetFree.of_bodySF (plainFor_of_name pn_com_example_rootward_rootward_jdbc_Condition_Operator) hisR ?_
  intro p e s m args below meth c s₁ Bd hml0 hP hK
  obtain ⟨rfl, hZ, hh⟩ := hP
  have hx := Bd.exec
  have hby := Bd.bytes
  have hml : c.maxLocals = 1 := hml0
  have hown : s.vm.findClass "com/example/rootward/rootward/jdbc/Condition$Operator" = some m.cls := findClass_of_methodNamed Bd.named
  have X0 : Stand p l e ({ frames := 0, cells := 0, slots := 0, locals := 0 } : Room) s m #[(.ref w_CONTAINING)] below meth c s₁ [] 0 0 := Stand.of_body Bd
  have e0 : s₁.heap = h0 := by rw [← hh, Bd.state]; rfl
  have N0 := Fr.nil n0
  refine (?_ : own_Fin p e below _ _)
  refine own_st (fun t k => castTop (ef_2_R m w_CONTAINING) k) ?_
  show own_Fin p e below _ (s₁.setTop (mkF m 0 #[.val (.ref w_CONTAINING)] []))
  refine own_st (fun t k => XS.aloadN X0.here hx rfl (hb hby d2_0) rfl rfl k) ?_
  show own_Fin p e below _ (s₁.setTop (mkF m 1 #[.val (.ref w_CONTAINING)] [(.ref w_CONTAINING)]))
  obtain ⟨T1, X1, e1, st1⟩ := getS2 X0 hx hZ hown (host := "") (Or.inl (hw _ (List.mem_of_getElem? (i := 13) rfl))) Via.refl e0 S_IS_TRUE (g := (mkF m 1 #[.val (.ref w_CONTAINING)] [(.ref w_CONTAINING)])) rfl (hb hby d2_1)
  refine own_st st1 ?_
  show own_Fin p e below _ (T1.setTop (mkF m 4 #[.val (.ref w_CONTAINING)] [(.ref w_IS_TRUE), (.ref w_CONTAINING)]))
  refine own_st (fun t k => Jvm.RoadKit.acmp (g := (mkF m 4 #[.val (.ref w_CONTAINING)] [(.ref w_IS_TRUE), (.ref w_CONTAINING)])) X1 hx rfl rfl rfl (pc0 := 4) (pc' := 7) (same := false) rfl (hb hby d2_4) rfl (decide_eq_false fun q => (Fld.ne F_CONTAINING_ordinal F_IS_TRUE_ordinal (by simp)) (Value.ref.inj q)) (by decide) (by decide) k) ?_
  show own_Fin p e below _ (T1.setTop (mkF m 7 #[.val (.ref w_CONTAINING)] []))
  refine own_st (fun t k => XS.aloadN X1.here hx rfl (hb hby d2_7) rfl rfl k) ?_
  show own_Fin p e below _ (T1.setTop (mkF m 8 #[.val (.ref w_CONTAINING)] [(.ref w_CONTAINING)]))
  obtain ⟨T2, X2, e2, st2⟩ := getS2 X1 hx hZ hown (host := "") (Or.inl (hw _ (List.mem_of_getElem? (i := 15) rfl))) Via.refl e1 S_IS_FALSE (g := (mkF m 8 #[.val (.ref w_CONTAINING)] [(.ref w_CONTAINING)])) rfl (hb hby d2_8)
  refine own_st st2 ?_
  show own_Fin p e below _ (T2.setTop (mkF m 11 #[.val (.ref w_CONTAINING)] [(.ref w_IS_FALSE), (.ref w_CONTAINING)]))
  refine own_st (fun t k => Jvm.RoadKit.acmp (g := (mkF m 11 #[.val (.ref w_CONTAINING)] [(.ref w_IS_FALSE), (.ref w_CONTAINING)])) X2 hx rfl rfl rfl (pc0 := 11) (pc' := 18) (same := false) rfl (hb hby d2_11) rfl (decide_eq_false fun q => (Fld.ne F_CONTAINING_ordinal F_IS_FALSE_ordinal (by simp)) (Value.ref.inj q)) (by decide) (by decide) k) ?_
  show own_Fin p e below _ (T2.setTop (mkF m 18 #[.val (.ref w_CONTAINING)] []))
  refine own_st (fun t k => XS.iconst X2.here hx rfl (hb hby d2_18) k) ?_
  show own_Fin p e below _ (T2.setTop (mkF m 19 #[.val (.ref w_CONTAINING)] [(.int (0 : Int32))]))
  obtain ⟨fs, hr, hrun, hended, hW, hsame⟩ := X2.leave (v := some (.int (0 : Int32))) (fun h => by rw [Bd.returns] at h; cases h)
  exact ⟨_, _, retN X2 hx (t := .boolean) Bd.returns (by simp) (hb hby d2_19) hr, hrun, hended, _, _, rfl, ⟨rfl, N0, e2⟩, ⟨_, rfl⟩, hW, hsame.mono (by decide) (by decide)⟩
set_option maxRecDepth 65536 in
set_option maxHeartbeats 40000000 in
theorem rm0_c16 (l : Launch) (Z : State) (a0 : Array Value) (hw : ∀ d ∈ tables_1, d.before a0 Z = true) (ws : List Jvm.Cond) (w_EQUAL w_IS_TRUE w_IS_FALSE w_GREATER_THAN_OR_EQUAL w_IS_NULL w_IS_NOT_NULL w_STARTING_WITH w_NOT_BETWEEN w_GREATER_THAN w_IN w_NOT_EQUAL w_NOT_IN w_ENDING_WITH w_BETWEEN w_NOT_CONTAINING w_CONTAINING w_LIKE w_LESS_THAN_OR_EQUAL w_LESS_THAN w_NOT_LIKE : Addr) (p0 : Int32) (h0 : Heap) (n0 : Nat) (PN : own_Pins Z h0 w_EQUAL w_IS_TRUE w_IS_FALSE w_GREATER_THAN_OR_EQUAL w_IS_NULL w_IS_NOT_NULL w_STARTING_WITH w_NOT_BETWEEN w_GREATER_THAN w_IN w_NOT_EQUAL w_NOT_IN w_ENDING_WITH w_BETWEEN w_NOT_CONTAINING w_CONTAINING w_LIKE w_LESS_THAN_OR_EQUAL w_LESS_THAN w_NOT_LIKE) (q0 : ((p0 &&& (2147483647 : Int32)) % (20 : Int32)) = (16 : Int32)) :
    MetFree l x (head1 (Jvm.Cond.code x code maxLocals ret :: ws) room_1) (fun a U => a = #[(.int p0)] ∧ Z.Warmed39 U.vm ∧ U.heap = h0) (fun _ _ _ _ _ => True) (fun _ U o U' => ∃ v L, o = .returned v ∧ own_Q h0 n0 (some (.int (1 : Int32))) v U'.heap L ∧ FrameEnd U o U' L room_1.cells room_1.slots) := by
  have E_CONTAINING : Exa Z h0 w_CONTAINING "com/example/rootward/rootward/jdbc/Condition$Operator" := PN.2.2.2.2.2.2.2.2.2.2.2.2.2.2.2.2.2.2.2.2.2.2.2.2.2.2.2.2.2.2.2.1
  refine MetFree.of_bodySF (plainFor_of_name pn_com_example_rootward_rootward_jdbc_OperatorTestsTruthPinLaw) hisR ?_
  intro p e s m args below meth c s₁ Bd hml0 hP hK
  obtain ⟨rfl, hZ, hh⟩ := hP
  have hx := Bd.exec
  have hby := Bd.bytes
  have hml : c.maxLocals = 5 := hml0
  have hown : s.vm.findClass "com/example/rootward/rootward/jdbc/OperatorTestsTruthPinLaw" = some m.cls := findClass_of_methodNamed Bd.named
  have X0 : Stand p l e room_1 s m #[(.int p0)] below meth c s₁ [] 0 0 := Stand.of_body Bd
  have e0 : s₁.heap = h0 := by rw [← hh, Bd.state]; rfl
  have N0 := Fr.nil n0
  refine (?_ : own_Fin p e below _ _)
  refine own_st (fun t k => castTop (ef_0_I m p0) k) ?_
  show own_Fin p e below _ (s₁.setTop (mkF m 0 #[.val (.int p0), .unset, .unset, .unset, .unset] []))
  refine own_st (fun t k => XS.iloadN X0.here hx rfl (hb hby at_0) rfl k) ?_
  show own_Fin p e below _ (s₁.setTop (mkF m 1 #[.val (.int p0), .unset, .unset, .unset, .unset] [(.int p0)]))
  refine own_st (fun t k => X0.ldcI hx hown (mvT hZ (hw _ (List.mem_of_getElem? (i := 0) rfl))) rfl (hb hby at_1) k) ?_
  show own_Fin p e below _ (s₁.setTop (mkF m 3 #[.val (.int p0), .unset, .unset, .unset, .unset] [(.int (2147483647 : Int32)), (.int p0)]))
  refine own_st (fun t k => XS.iand X0.here hx rfl (hb hby at_3) rfl k) ?_
  show own_Fin p e below _ (s₁.setTop (mkF m 4 #[.val (.int p0), .unset, .unset, .unset, .unset] [(.int (p0 &&& (2147483647 : Int32)))]))
  refine own_st (fun t k => XS.bipush X0.here hx rfl (hb hby at_4) k) ?_
  show own_Fin p e below _ (s₁.setTop (mkF m 6 #[.val (.int p0), .unset, .unset, .unset, .unset] [(.int (20 : Int32)), (.int (p0 &&& (2147483647 : Int32)))]))
  refine own_st (fun t k => iremM X0 hx rfl (hb hby at_6) rfl (by decide) k) ?_
  show own_Fin p e below _ (s₁.setTop (mkF m 7 #[.val (.int p0), .unset, .unset, .unset, .unset] [(.int ((p0 &&& (2147483647 : Int32)) % (20 : Int32)))]))
  rw [q0]
  show own_Fin p e below _ (s₁.setTop (mkF m 7 #[.val (.int p0), .unset, .unset, .unset, .unset] [(.int (16 : Int32))]))
  refine own_st (fun t k => XS.istoreN X0.here hx rfl (hb hby at_7) rfl (l' := #[.val (.int p0), .val (.int (16 : Int32)), .unset, .unset, .unset]) rfl k) ?_
  show own_Fin p e below _ (s₁.setTop (mkF m 8 #[.val (.int p0), .val (.int (16 : Int32)), .unset, .unset, .unset] []))
  refine own_st (fun t k => XS.iloadN X0.here hx rfl (hb hby at_8) rfl k) ?_
  show own_Fin p e below _ (s₁.setTop (mkF m 9 #[.val (.int p0), .val (.int (16 : Int32)), .unset, .unset, .unset] [(.int (16 : Int32))]))
  obtain ⟨_, _, ⟨T1, L1, k1, n1⟩, -, X1, ⟨Lc1, hQ1, l1, y1, z1⟩, st1⟩ := Jvm.LawKit.callS X0 hx (y := (⟨"com/example/rootward/rootward/jdbc/OperatorTestsTruthPinLaw", "pick", "(I)Lcom/example/rootward/rootward/jdbc/Condition$Operator;"⟩ : MethodName)) hown (mvT hZ (hw _ (List.mem_of_getElem? (i := 1) rfl))) (mvT hZ (hw _ (List.mem_of_getElem? (i := 2) rfl))) (mvT hZ (hw _ (List.mem_of_getElem? (i := 3) rfl))) (mvT hZ (hw _ (List.mem_of_getElem? (i := 4) rfl))) (by decide) (backOf (W := 0) (rm1_16 l Z a0 hw [] w_EQUAL w_IS_TRUE w_IS_FALSE w_GREATER_THAN_OR_EQUAL w_IS_NULL w_IS_NOT_NULL w_STARTING_WITH w_NOT_BETWEEN w_GREATER_THAN w_IN w_NOT_EQUAL w_NOT_IN w_ENDING_WITH w_BETWEEN w_NOT_CONTAINING w_CONTAINING w_LIKE w_LESS_THAN_OR_EQUAL w_LESS_THAN w_NOT_LIKE h0 n0 PN) hZ (hw _ (List.mem_of_getElem? (i := 4) rfl)) (hw _ (List.mem_of_getElem? (i := 3) rfl)) (by decide) (by decide)) (g := (mkF m 9 #[.val (.int p0), .val (.int (16 : Int32)), .unset, .unset, .unset] [(.int (16 : Int32))])) rfl (by rw [hml]; rfl) (argsL := [(.int (16 : Int32))]) (rest := []) (lenOf pd__I_Lcom_example_rootward_rootward_jdbc_Condition_Operator_ rfl) rfl (by show 2 * 0 + _ ≤ _; exact Nat.le_of_eq rfl) (hb hby at_9) (fun _ _ => ⟨rfl, e0, (by decide : 0 + 0 ≤ _), (by decide : 0 + 0 ≤ _)⟩)
  dsimp only [Pt.U, Pt.locs, Pt.cells, Pt.slots] at X1 l1 y1 z1 st1 hQ1
  subst l1 y1 z1
  obtain ⟨rfl, N1q, e1⟩ := hQ1
  have N1 := Fr.app N0 N1q
  refine own_st st1 ?_
  show own_Fin p e below _ (T1.setTop (mkF m 12 #[.val (.int p0), .val (.int (16 : Int32)), .unset, .unset, .unset] [(.ref w_CONTAINING)]))
  refine own_st (fun t k => XS.astoreN X1.here hx rfl (hb hby at_12) rfl rfl (l' := #[.val (.int p0), .val (.int (16 : Int32)), .val (.ref w_CONTAINING), .unset, .unset]) rfl k) ?_
  show own_Fin p e below _ (T1.setTop (mkF m 13 #[.val (.int p0), .val (.int (16 : Int32)), .val (.ref w_CONTAINING), .unset, .unset] []))
  refine own_st (fun t k => XS.iloadN X1.here hx rfl (hb hby at_13) rfl k) ?_
  show own_Fin p e below _ (T1.setTop (mkF m 14 #[.val (.int p0), .val (.int (16 : Int32)), .val (.ref w_CONTAINING), .unset, .unset] [(.int (16 : Int32))]))
  refine own_st (fun t k => XS.bipush X1.here hx rfl (hb hby at_14) k) ?_
  show own_Fin p e below _ (T1.setTop (mkF m 16 #[.val (.int p0), .val (.int (16 : Int32)), .val (.ref w_CONTAINING), .unset, .unset] [(.int (18 : Int32)), (.int (16 : Int32))]))
  refine own_st (fun t k => XS.icmpNo X1.here hx rfl (hb hby at_16) rfl (by decide) k) ?_
  show own_Fin p e below _ (T1.setTop (mkF m 19 #[.val (.int p0), .val (.int (16 : Int32)), .val (.ref w_CONTAINING), .unset, .unset] []))
  refine own_st (fun t k => XS.iloadN X1.here hx rfl (hb hby at_19) rfl k) ?_
  show own_Fin p e below _ (T1.setTop (mkF m 20 #[.val (.int p0), .val (.int (16 : Int32)), .val (.ref w_CONTAINING), .unset, .unset] [(.int (16 : Int32))]))
  refine own_st (fun t k => XS.bipush X1.here hx rfl (hb hby at_20) k) ?_
  show own_Fin p e below _ (T1.setTop (mkF m 22 #[.val (.int p0), .val (.int (16 : Int32)), .val (.ref w_CONTAINING), .unset, .unset] [(.int (19 : Int32)), (.int (16 : Int32))]))
  refine own_st (fun t k => XS.icmpYes X1.here hx rfl (pc0 := 22) (pc' := 29) rfl (hb hby at_22) rfl (by decide) (by decide) (by decide) k) ?_
  show own_Fin p e below _ (T1.setTop (mkF m 29 #[.val (.int p0), .val (.int (16 : Int32)), .val (.ref w_CONTAINING), .unset, .unset] []))
  refine own_st (fun t k => XS.iconst X1.here hx rfl (hb hby at_29) k) ?_
  show own_Fin p e below _ (T1.setTop (mkF m 30 #[.val (.int p0), .val (.int (16 : Int32)), .val (.ref w_CONTAINING), .unset, .unset] [(.int (0 : Int32))]))
  refine own_st (fun t k => XS.istoreN X1.here hx rfl (hb hby at_30) rfl (l' := #[.val (.int p0), .val (.int (16 : Int32)), .val (.ref w_CONTAINING), .val (.int (0 : Int32)), .unset]) rfl k) ?_
  show own_Fin p e below _ (T1.setTop (mkF m 31 #[.val (.int p0), .val (.int (16 : Int32)), .val (.ref w_CONTAINING), .val (.int (0 : Int32)), .unset] []))
  refine own_st (fun t k => XS.aloadN X1.here hx rfl (hb hby at_31) rfl rfl k) ?_
  show own_Fin p e below _ (T1.setTop (mkF m 32 #[.val (.int p0), .val (.int (16 : Int32)), .val (.ref w_CONTAINING), .val (.int (0 : Int32)), .unset] [(.ref w_CONTAINING)]))
  obtain ⟨cq2, kq2, q2a, q2b, q2c⟩ := isOf hZ e1 E_CONTAINING
  obtain ⟨_, _, ⟨T2, L2, k2, n2⟩, -, X2, ⟨Lc2, hQ2, l2, y2, z2⟩, st2⟩ := X1.virtualBack hx (y := (⟨"com/example/rootward/rootward/jdbc/Condition$Operator", "testsTruth", "()Z"⟩ : MethodName)) (z := (⟨"com/example/rootward/rootward/jdbc/Condition$Operator", "testsTruth", "()Z"⟩ : MethodName)) hown (mvT hZ (hw _ (List.mem_of_getElem? (i := 8) rfl))) (mvT hZ (hw _ (List.mem_of_getElem? (i := 9) rfl))) (notFace_of_selects (args := #[]) (mvT hZ (hw _ (List.mem_of_getElem? (i := 11) rfl)))) (mvT hZ (hw _ (List.mem_of_getElem? (i := 11) rfl))) (mvT hZ (hw _ (List.mem_of_getElem? (i := 10) rfl))) (by decide) (backOf (W := 0) (rm2_w_CONTAINING l Z a0 hw [] w_EQUAL w_IS_TRUE w_IS_FALSE w_GREATER_THAN_OR_EQUAL w_IS_NULL w_IS_NOT_NULL w_STARTING_WITH w_NOT_BETWEEN w_GREATER_THAN w_IN w_NOT_EQUAL w_NOT_IN w_ENDING_WITH w_BETWEEN w_NOT_CONTAINING w_CONTAINING w_LIKE w_LESS_THAN_OR_EQUAL w_LESS_THAN w_NOT_LIKE h0 n0 PN) hZ (hw _ (List.mem_of_getElem? (i := 12) rfl)) (hw _ (List.mem_of_getElem? (i := 6) rfl)) (by decide) (by decide)) q2a q2c (g := (mkF m 32 #[.val (.int p0), .val (.int (16 : Int32)), .val (.ref w_CONTAINING), .val (.int (0 : Int32)), .unset] [(.ref w_CONTAINING)])) rfl (by rw [hml]; rfl) (Steps.refl _) (argsL := []) (rest := []) (lenOf pd___Z rfl) rfl (by show 2 * 0 + _ ≤ _; exact Nat.le_of_eq rfl) (hb hby at_32) (fun _ _ => ⟨rfl, e1, (by decide : 0 + 0 ≤ _), (by decide : 0 + 0 ≤ _)⟩)
  dsimp only [Pt.U, Pt.locs, Pt.cells, Pt.slots] at X2 l2 y2 z2 st2 hQ2
  subst l2 y2 z2
  obtain ⟨rfl, N2q, e2⟩ := hQ2
  have N2 := Fr.app N1 N2q
  refine own_tr st2 ?_
  show own_Fin p e below _ (T2.setTop (mkF m 35 #[.val (.int p0), .val (.int (16 : Int32)), .val (.ref w_CONTAINING), .val (.int (0 : Int32)), .unset] [(.int (0 : Int32))]))
  refine own_st (fun t k => XS.istore X2.here hx rfl (hb hby at_35) rfl (l' := #[.val (.int p0), .val (.int (16 : Int32)), .val (.ref w_CONTAINING), .val (.int (0 : Int32)), .val (.int (0 : Int32))]) rfl k) ?_
  show own_Fin p e below _ (T2.setTop (mkF m 37 #[.val (.int p0), .val (.int (16 : Int32)), .val (.ref w_CONTAINING), .val (.int (0 : Int32)), .val (.int (0 : Int32))] []))
  refine own_st (fun t k => XS.iload X2.here hx rfl (hb hby at_37) rfl k) ?_
  show own_Fin p e below _ (T2.setTop (mkF m 39 #[.val (.int p0), .val (.int (16 : Int32)), .val (.ref w_CONTAINING), .val (.int (0 : Int32)), .val (.int (0 : Int32))] [(.int (0 : Int32))]))
  refine own_st (fun t k => XS.iloadN X2.here hx rfl (hb hby at_39) rfl k) ?_
  show own_Fin p e below _ (T2.setTop (mkF m 40 #[.val (.int p0), .val (.int (16 : Int32)), .val (.ref w_CONTAINING), .val (.int (0 : Int32)), .val (.int (0 : Int32))] [(.int (0 : Int32)), (.int (0 : Int32))]))
  refine own_st (fun t k => XS.icmpYes X2.here hx rfl (pc0 := 40) (pc' := 45) rfl (hb hby at_40) rfl (by decide) (by decide) (by decide) k) ?_
  show own_Fin p e below _ (T2.setTop (mkF m 45 #[.val (.int p0), .val (.int (16 : Int32)), .val (.ref w_CONTAINING), .val (.int (0 : Int32)), .val (.int (0 : Int32))] []))
  refine own_st (fun t k => XS.iload X2.here hx rfl (hb hby at_45) rfl k) ?_
  show own_Fin p e below _ (T2.setTop (mkF m 47 #[.val (.int p0), .val (.int (16 : Int32)), .val (.ref w_CONTAINING), .val (.int (0 : Int32)), .val (.int (0 : Int32))] [(.int (0 : Int32))]))
  refine own_st (fun t k => XS.ifYes X2.here hx rfl (pc0 := 47) (pc' := 73) rfl (hb hby at_47) rfl (by decide) (by decide) (by decide) k) ?_
  show own_Fin p e below _ (T2.setTop (mkF m 73 #[.val (.int p0), .val (.int (16 : Int32)), .val (.ref w_CONTAINING), .val (.int (0 : Int32)), .val (.int (0 : Int32))] []))
  refine own_st (fun t k => XS.iconst X2.here hx rfl (hb hby at_73) k) ?_
  show own_Fin p e below _ (T2.setTop (mkF m 74 #[.val (.int p0), .val (.int (16 : Int32)), .val (.ref w_CONTAINING), .val (.int (0 : Int32)), .val (.int (0 : Int32))] [(.int (1 : Int32))]))
  obtain ⟨fs, hr, hrun, hended, hW, hsame⟩ := X2.leave (v := some (.int (1 : Int32))) (fun h => by rw [Bd.returns] at h; cases h)
  exact ⟨_, _, retN X2 hx (t := .boolean) Bd.returns (by simp) (hb hby at_74) hr, hrun, hended, _, _, rfl, ⟨rfl, N2, e2⟩, ⟨_, rfl⟩, hW, hsame.mono (by decide) (by decide)⟩
theorem d1_160 : decode method_2_code 160 = .ok (.getstatic 61, 3) := by decide +kernel
theorem d1_163 : decode method_2_code 163 = .ok (.areturn, 1) := by decide +kernel
set_option maxRecDepth 65536 in
set_option maxHeartbeats 40000000 in
theorem rm1_17 (l : Launch) (Z : State) (a0 : Array Value) (hw : ∀ d ∈ tables_1, d.before a0 Z = true) (ws : List Jvm.Cond) (w_EQUAL w_IS_TRUE w_IS_FALSE w_GREATER_THAN_OR_EQUAL w_IS_NULL w_IS_NOT_NULL w_STARTING_WITH w_NOT_BETWEEN w_GREATER_THAN w_IN w_NOT_EQUAL w_NOT_IN w_ENDING_WITH w_BETWEEN w_NOT_CONTAINING w_CONTAINING w_LIKE w_LESS_THAN_OR_EQUAL w_LESS_THAN w_NOT_LIKE : Addr) (h0 : Heap) (n0 : Nat) (PN : own_Pins Z h0 w_EQUAL w_IS_TRUE w_IS_FALSE w_GREATER_THAN_OR_EQUAL w_IS_NULL w_IS_NOT_NULL w_STARTING_WITH w_NOT_BETWEEN w_GREATER_THAN w_IN w_NOT_EQUAL w_NOT_IN w_ENDING_WITH w_BETWEEN w_NOT_CONTAINING w_CONTAINING w_LIKE w_LESS_THAN_OR_EQUAL w_LESS_THAN w_NOT_LIKE) :
    MetFree l (⟨"com/example/rootward/rootward/jdbc/OperatorTestsTruthPinLaw", "pick", "(I)Lcom/example/rootward/rootward/jdbc/Condition$Operator;"⟩ : MethodName) (head1 (Jvm.Cond.code (⟨"com/example/rootward/rootward/jdbc/OperatorTestsTruthPinLaw", "pick", "(I)Lcom/example/rootward/rootward/jdbc/Condition$Operator;"⟩ : MethodName) method_2_code 1 (some (.object "com/example/rootward/rootward/jdbc/Condition$Operator")) :: ws) ({ frames := 0, cells := 0, slots := 0, locals := 0 } : Room)) (fun a U => a = #[(.int (17 : Int32))] ∧ Z.Warmed39 U.vm ∧ U.heap = h0) (fun _ _ _ _ _ => True) (fun _ U o U' => ∃ v L, o = .returned v ∧ own_Q h0 n0 (some (.ref w_NOT_CONTAINING)) v U'.heap L ∧ FrameEnd U o U' L ({ frames := 0, cells := 0, slots := 0, locals := 0 } : Room).cells ({ frames := 0, cells := 0, slots := 0, locals := 0 } : Room).slots) := by
  have S_NOT_CONTAINING : Sta Z h0 "com/example/rootward/rootward/jdbc/Condition$Operator" "NOT_CONTAINING" "Lcom/example/rootward/rootward/jdbc/Condition$Operator;" (.ref w_NOT_CONTAINING) := PN.2.2.2.2.2.2.2.2.2.2.2.2.2.2.2.2.2.2.2.2.2.2.2.2.2.2.2.2.1
  refine MetFree.of_bodySF (plainFor_of_name pn_com_example_rootward_rootward_jdbc_OperatorTestsTruthPinLaw) hisR ?_
  intro p e s m args below meth c s₁ Bd hml0 hP hK
  obtain ⟨rfl, hZ, hh⟩ := hP
  have hx := Bd.exec
  have hby := Bd.bytes
  have hml : c.maxLocals = 1 := hml0
  have hown : s.vm.findClass "com/example/rootward/rootward/jdbc/OperatorTestsTruthPinLaw" = some m.cls := findClass_of_methodNamed Bd.named
  have X0 : Stand p l e ({ frames := 0, cells := 0, slots := 0, locals := 0 } : Room) s m #[(.int (17 : Int32))] below meth c s₁ [] 0 0 := Stand.of_body Bd
  have e0 : s₁.heap = h0 := by rw [← hh, Bd.state]; rfl
  have N0 := Fr.nil n0
  refine (?_ : own_Fin p e below _ _)
  refine own_st (fun t k => castTop (ef_1_I m (17 : Int32)) k) ?_
  show own_Fin p e below _ (s₁.setTop (mkF m 0 #[.val (.int (17 : Int32))] []))
  refine own_st (fun t k => XS.iloadN X0.here hx rfl (hb hby d1_0) rfl k) ?_
  show own_Fin p e below _ (s₁.setTop (mkF m 1 #[.val (.int (17 : Int32))] [(.int (17 : Int32))]))
  refine own_st (fun t k => XS.tswIn X0.here hx rfl (pc0 := 1) (pc' := 160) rfl (hb hby d1_1) rfl (by decide) (o := 159) (by decide) (by decide) (by decide) k) ?_
  show own_Fin p e below _ (s₁.setTop (mkF m 160 #[.val (.int (17 : Int32))] []))
  obtain ⟨T1, X1, e1, st1⟩ := getS2 X0 hx hZ hown (host := "") (Or.inl (hw _ (List.mem_of_getElem? (i := 60) rfl))) Via.refl e0 S_NOT_CONTAINING (g := (mkF m 160 #[.val (.int (17 : Int32))] [])) rfl (hb hby d1_160)
  refine own_st st1 ?_
  show own_Fin p e below _ (T1.setTop (mkF m 163 #[.val (.int (17 : Int32))] [(.ref w_NOT_CONTAINING)]))
  obtain ⟨fs, hr, hrun, hended, hW, hsame⟩ := X1.leave (v := some (.ref w_NOT_CONTAINING)) (fun h => by rw [Bd.returns] at h; cases h)
  exact ⟨_, _, retOut X1 hx (t := (.object "com/example/rootward/rootward/jdbc/Condition$Operator")) Bd.returns rfl (Or.inr (Or.inr (Or.inr (Or.inr ⟨rfl, rfl, rfl⟩)))) (hb hby d1_163) hr, hrun, hended, _, _, rfl, ⟨rfl, N0, e1⟩, ⟨_, rfl⟩, hW, hsame.mono (by decide) (by decide)⟩
set_option maxRecDepth 65536 in
set_option maxHeartbeats 40000000 in
theorem rm2_w_NOT_CONTAINING (l : Launch) (Z : State) (a0 : Array Value) (hw : ∀ d ∈ tables_1, d.before a0 Z = true) (ws : List Jvm.Cond) (w_EQUAL w_IS_TRUE w_IS_FALSE w_GREATER_THAN_OR_EQUAL w_IS_NULL w_IS_NOT_NULL w_STARTING_WITH w_NOT_BETWEEN w_GREATER_THAN w_IN w_NOT_EQUAL w_NOT_IN w_ENDING_WITH w_BETWEEN w_NOT_CONTAINING w_CONTAINING w_LIKE w_LESS_THAN_OR_EQUAL w_LESS_THAN w_NOT_LIKE : Addr) (h0 : Heap) (n0 : Nat) (PN : own_Pins Z h0 w_EQUAL w_IS_TRUE w_IS_FALSE w_GREATER_THAN_OR_EQUAL w_IS_NULL w_IS_NOT_NULL w_STARTING_WITH w_NOT_BETWEEN w_GREATER_THAN w_IN w_NOT_EQUAL w_NOT_IN w_ENDING_WITH w_BETWEEN w_NOT_CONTAINING w_CONTAINING w_LIKE w_LESS_THAN_OR_EQUAL w_LESS_THAN w_NOT_LIKE) :
    MetFree l (⟨"com/example/rootward/rootward/jdbc/Condition$Operator", "testsTruth", "()Z"⟩ : MethodName) (head1 (Jvm.Cond.code (⟨"com/example/rootward/rootward/jdbc/Condition$Operator", "testsTruth", "()Z"⟩ : MethodName) prog_32_method_8_code 1 (some .boolean) :: ws) ({ frames := 0, cells := 0, slots := 0, locals := 0 } : Room)) (fun a U => a = #[(.ref w_NOT_CONTAINING)] ∧ Z.Warmed39 U.vm ∧ U.heap = h0) (fun _ _ _ _ _ => True) (fun _ U o U' => ∃ v L, o = .returned v ∧ own_Q h0 n0 (some (.int (0 : Int32))) v U'.heap L ∧ FrameEnd U o U' L ({ frames := 0, cells := 0, slots := 0, locals := 0 } : Room).cells ({ frames := 0, cells := 0, slots := 0, locals := 0 } : Room).slots) := by
  have S_IS_TRUE : Sta Z h0 "com/example/rootward/rootward/jdbc/Condition$Operator" "IS_TRUE" "Lcom/example/rootward/rootward/jdbc/Condition$Operator;" (.ref w_IS_TRUE) := PN.2.2.1
  have S_IS_FALSE : Sta Z h0 "com/example/rootward/rootward/jdbc/Condition$Operator" "IS_FALSE" "Lcom/example/rootward/rootward/jdbc/Condition$Operator;" (.ref w_IS_FALSE) := PN.2.2.2.2.1
  have F_IS_TRUE_ordinal : Fld Z h0 w_IS_TRUE "java/lang/Enum" "ordinal" "I" (.int 18) := PN.2.2.2.2.2.2.2.2.2.2.2.2.2.2.2.2.2.2.2.2.2.2.2.2.2.2.2.2.2.2.2.2.2.2.2.2.2.2.2.2.2.1
  have F_IS_FALSE_ordinal : Fld Z h0 w_IS_FALSE "java/lang/Enum" "ordinal" "I" (.int 19) := PN.2.2.2.2.2.2.2.2.2.2.2.2.2.2.2.2.2.2.2.2.2.2.2.2.2.2.2.2.2.2.2.2.2.2.2.2.2.2.2.2.2.2.1
  have F_NOT_CONTAINING_ordinal : Fld Z h0 w_NOT_CONTAINING "java/lang/Enum" "ordinal" "I" (.int 17) := PN.2.2.2.2.2.2.2.2.2.2.2.2.2.2.2.2.2.2.2.2.2.2.2.2.2.2.2.2.2.2.2.2.2.2.2.2.2.2.2.2.2.2.2.2.2.2.2.2.2.2.2.2.2.2.2.2.1
  refine MetFree.of_bodySF (plainFor_of_name pn_com_example_rootward_rootward_jdbc_Condition_Operator) hisR ?_
  intro p e s m args below meth c s₁ Bd hml0 hP hK
  obtain ⟨rfl, hZ, hh⟩ := hP
  have hx := Bd.exec
  have hby := Bd.bytes
  have hml : c.maxLocals = 1 := hml0
  have hown : s.vm.findClass "com/example/rootward/rootward/jdbc/Condition$Operator" = some m.cls := findClass_of_methodNamed Bd.named
  have X0 : Stand p l e ({ frames := 0, cells := 0, slots := 0, locals := 0 } : Room) s m #[(.ref w_NOT_CONTAINING)] below meth c s₁ [] 0 0 := Stand.of_body Bd
  have e0 : s₁.heap = h0 := by rw [← hh, Bd.state]; rfl
  have N0 := Fr.nil n0
  refine (?_ : own_Fin p e below _ _)
  refine own_st (fun t k => castTop (ef_2_R m w_NOT_CONTAINING) k) ?_
  show own_Fin p e below _ (s₁.setTop (mkF m 0 #[.val (.ref w_NOT_CONTAINING)] []))
  refine own_st (fun t k => XS.aloadN X0.here hx rfl (hb hby d2_0) rfl rfl k) ?_
  show own_Fin p e below _ (s₁.setTop (mkF m 1 #[.val (.ref w_NOT_CONTAINING)] [(.ref w_NOT_CONTAINING)]))
  obtain ⟨T1, X1, e1, st1⟩ := getS2 X0 hx hZ hown (host := "") (Or.inl (hw _ (List.mem_of_getElem? (i := 13) rfl))) Via.refl e0 S_IS_TRUE (g := (mkF m 1 #[.val (.ref w_NOT_CONTAINING)] [(.ref w_NOT_CONTAINING)])) rfl (hb hby d2_1)
  refine own_st st1 ?_
  show own_Fin p e below _ (T1.setTop (mkF m 4 #[.val (.ref w_NOT_CONTAINING)] [(.ref w_IS_TRUE), (.ref w_NOT_CONTAINING)]))
  refine own_st (fun t k => Jvm.RoadKit.acmp (g := (mkF m 4 #[.val (.ref w_NOT_CONTAINING)] [(.ref w_IS_TRUE), (.ref w_NOT_CONTAINING)])) X1 hx rfl rfl rfl (pc0 := 4) (pc' := 7) (same := false) rfl (hb hby d2_4) rfl (decide_eq_false fun q => (Fld.ne F_NOT_CONTAINING_ordinal F_IS_TRUE_ordinal (by simp)) (Value.ref.inj q)) (by decide) (by decide) k) ?_
  show own_Fin p e below _ (T1.setTop (mkF m 7 #[.val (.ref w_NOT_CONTAINING)] []))
  refine own_st (fun t k => XS.aloadN X1.here hx rfl (hb hby d2_7) rfl rfl k) ?_
  show own_Fin p e below _ (T1.setTop (mkF m 8 #[.val (.ref w_NOT_CONTAINING)] [(.ref w_NOT_CONTAINING)]))
  obtain ⟨T2, X2, e2, st2⟩ := getS2 X1 hx hZ hown (host := "") (Or.inl (hw _ (List.mem_of_getElem? (i := 15) rfl))) Via.refl e1 S_IS_FALSE (g := (mkF m 8 #[.val (.ref w_NOT_CONTAINING)] [(.ref w_NOT_CONTAINING)])) rfl (hb hby d2_8)
  refine own_st st2 ?_
  show own_Fin p e below _ (T2.setTop (mkF m 11 #[.val (.ref w_NOT_CONTAINING)] [(.ref w_IS_FALSE), (.ref w_NOT_CONTAINING)]))
  refine own_st (fun t k => Jvm.RoadKit.acmp (g := (mkF m 11 #[.val (.ref w_NOT_CONTAINING)] [(.ref w_IS_FALSE), (.ref w_NOT_CONTAINING)])) X2 hx rfl rfl rfl (pc0 := 11) (pc' := 18) (same := false) rfl (hb hby d2_11) rfl (decide_eq_false fun q => (Fld.ne F_NOT_CONTAINING_ordinal F_IS_FALSE_ordinal (by simp)) (Value.ref.inj q)) (by decide) (by decide) k) ?_
  show own_Fin p e below _ (T2.setTop (mkF m 18 #[.val (.ref w_NOT_CONTAINING)] []))
  refine own_st (fun t k => XS.iconst X2.here hx rfl (hb hby d2_18) k) ?_
  show own_Fin p e below _ (T2.setTop (mkF m 19 #[.val (.ref w_NOT_CONTAINING)] [(.int (0 : Int32))]))
  obtain ⟨fs, hr, hrun, hended, hW, hsame⟩ := X2.leave (v := some (.int (0 : Int32))) (fun h => by rw [Bd.returns] at h; cases h)
  exact ⟨_, _, retN X2 hx (t := .boolean) Bd.returns (by simp) (hb hby d2_19) hr, hrun, hended, _, _, rfl, ⟨rfl, N0, e2⟩, ⟨_, rfl⟩, hW, hsame.mono (by decide) (by decide)⟩
set_option maxRecDepth 65536 in
set_option maxHeartbeats 40000000 in
theorem rm0_c17 (l : Launch) (Z : State) (a0 : Array Value) (hw : ∀ d ∈ tables_1, d.before a0 Z = true) (ws : List Jvm.Cond) (w_EQUAL w_IS_TRUE w_IS_FALSE w_GREATER_THAN_OR_EQUAL w_IS_NULL w_IS_NOT_NULL w_STARTING_WITH w_NOT_BETWEEN w_GREATER_THAN w_IN w_NOT_EQUAL w_NOT_IN w_ENDING_WITH w_BETWEEN w_NOT_CONTAINING w_CONTAINING w_LIKE w_LESS_THAN_OR_EQUAL w_LESS_THAN w_NOT_LIKE : Addr) (p0 : Int32) (h0 : Heap) (n0 : Nat) (PN : own_Pins Z h0 w_EQUAL w_IS_TRUE w_IS_FALSE w_GREATER_THAN_OR_EQUAL w_IS_NULL w_IS_NOT_NULL w_STARTING_WITH w_NOT_BETWEEN w_GREATER_THAN w_IN w_NOT_EQUAL w_NOT_IN w_ENDING_WITH w_BETWEEN w_NOT_CONTAINING w_CONTAINING w_LIKE w_LESS_THAN_OR_EQUAL w_LESS_THAN w_NOT_LIKE) (q0 : ((p0 &&& (2147483647 : Int32)) % (20 : Int32)) = (17 : Int32)) :
    MetFree l x (head1 (Jvm.Cond.code x code maxLocals ret :: ws) room_1) (fun a U => a = #[(.int p0)] ∧ Z.Warmed39 U.vm ∧ U.heap = h0) (fun _ _ _ _ _ => True) (fun _ U o U' => ∃ v L, o = .returned v ∧ own_Q h0 n0 (some (.int (1 : Int32))) v U'.heap L ∧ FrameEnd U o U' L room_1.cells room_1.slots) := by
  have E_NOT_CONTAINING : Exa Z h0 w_NOT_CONTAINING "com/example/rootward/rootward/jdbc/Condition$Operator" := PN.2.2.2.2.2.2.2.2.2.2.2.2.2.2.2.2.2.2.2.2.2.2.2.2.2.2.2.2.2.1
  refine MetFree.of_bodySF (plainFor_of_name pn_com_example_rootward_rootward_jdbc_OperatorTestsTruthPinLaw) hisR ?_
  intro p e s m args below meth c s₁ Bd hml0 hP hK
  obtain ⟨rfl, hZ, hh⟩ := hP
  have hx := Bd.exec
  have hby := Bd.bytes
  have hml : c.maxLocals = 5 := hml0
  have hown : s.vm.findClass "com/example/rootward/rootward/jdbc/OperatorTestsTruthPinLaw" = some m.cls := findClass_of_methodNamed Bd.named
  have X0 : Stand p l e room_1 s m #[(.int p0)] below meth c s₁ [] 0 0 := Stand.of_body Bd
  have e0 : s₁.heap = h0 := by rw [← hh, Bd.state]; rfl
  have N0 := Fr.nil n0
  refine (?_ : own_Fin p e below _ _)
  refine own_st (fun t k => castTop (ef_0_I m p0) k) ?_
  show own_Fin p e below _ (s₁.setTop (mkF m 0 #[.val (.int p0), .unset, .unset, .unset, .unset] []))
  refine own_st (fun t k => XS.iloadN X0.here hx rfl (hb hby at_0) rfl k) ?_
  show own_Fin p e below _ (s₁.setTop (mkF m 1 #[.val (.int p0), .unset, .unset, .unset, .unset] [(.int p0)]))
  refine own_st (fun t k => X0.ldcI hx hown (mvT hZ (hw _ (List.mem_of_getElem? (i := 0) rfl))) rfl (hb hby at_1) k) ?_
  show own_Fin p e below _ (s₁.setTop (mkF m 3 #[.val (.int p0), .unset, .unset, .unset, .unset] [(.int (2147483647 : Int32)), (.int p0)]))
  refine own_st (fun t k => XS.iand X0.here hx rfl (hb hby at_3) rfl k) ?_
  show own_Fin p e below _ (s₁.setTop (mkF m 4 #[.val (.int p0), .unset, .unset, .unset, .unset] [(.int (p0 &&& (2147483647 : Int32)))]))
  refine own_st (fun t k => XS.bipush X0.here hx rfl (hb hby at_4) k) ?_
  show own_Fin p e below _ (s₁.setTop (mkF m 6 #[.val (.int p0), .unset, .unset, .unset, .unset] [(.int (20 : Int32)), (.int (p0 &&& (2147483647 : Int32)))]))
  refine own_st (fun t k => iremM X0 hx rfl (hb hby at_6) rfl (by decide) k) ?_
  show own_Fin p e below _ (s₁.setTop (mkF m 7 #[.val (.int p0), .unset, .unset, .unset, .unset] [(.int ((p0 &&& (2147483647 : Int32)) % (20 : Int32)))]))
  rw [q0]
  show own_Fin p e below _ (s₁.setTop (mkF m 7 #[.val (.int p0), .unset, .unset, .unset, .unset] [(.int (17 : Int32))]))
  refine own_st (fun t k => XS.istoreN X0.here hx rfl (hb hby at_7) rfl (l' := #[.val (.int p0), .val (.int (17 : Int32)), .unset, .unset, .unset]) rfl k) ?_
  show own_Fin p e below _ (s₁.setTop (mkF m 8 #[.val (.int p0), .val (.int (17 : Int32)), .unset, .unset, .unset] []))
  refine own_st (fun t k => XS.iloadN X0.here hx rfl (hb hby at_8) rfl k) ?_
  show own_Fin p e below _ (s₁.setTop (mkF m 9 #[.val (.int p0), .val (.int (17 : Int32)), .unset, .unset, .unset] [(.int (17 : Int32))]))
  obtain ⟨_, _, ⟨T1, L1, k1, n1⟩, -, X1, ⟨Lc1, hQ1, l1, y1, z1⟩, st1⟩ := Jvm.LawKit.callS X0 hx (y := (⟨"com/example/rootward/rootward/jdbc/OperatorTestsTruthPinLaw", "pick", "(I)Lcom/example/rootward/rootward/jdbc/Condition$Operator;"⟩ : MethodName)) hown (mvT hZ (hw _ (List.mem_of_getElem? (i := 1) rfl))) (mvT hZ (hw _ (List.mem_of_getElem? (i := 2) rfl))) (mvT hZ (hw _ (List.mem_of_getElem? (i := 3) rfl))) (mvT hZ (hw _ (List.mem_of_getElem? (i := 4) rfl))) (by decide) (backOf (W := 0) (rm1_17 l Z a0 hw [] w_EQUAL w_IS_TRUE w_IS_FALSE w_GREATER_THAN_OR_EQUAL w_IS_NULL w_IS_NOT_NULL w_STARTING_WITH w_NOT_BETWEEN w_GREATER_THAN w_IN w_NOT_EQUAL w_NOT_IN w_ENDING_WITH w_BETWEEN w_NOT_CONTAINING w_CONTAINING w_LIKE w_LESS_THAN_OR_EQUAL w_LESS_THAN w_NOT_LIKE h0 n0 PN) hZ (hw _ (List.mem_of_getElem? (i := 4) rfl)) (hw _ (List.mem_of_getElem? (i := 3) rfl)) (by decide) (by decide)) (g := (mkF m 9 #[.val (.int p0), .val (.int (17 : Int32)), .unset, .unset, .unset] [(.int (17 : Int32))])) rfl (by rw [hml]; rfl) (argsL := [(.int (17 : Int32))]) (rest := []) (lenOf pd__I_Lcom_example_rootward_rootward_jdbc_Condition_Operator_ rfl) rfl (by show 2 * 0 + _ ≤ _; exact Nat.le_of_eq rfl) (hb hby at_9) (fun _ _ => ⟨rfl, e0, (by decide : 0 + 0 ≤ _), (by decide : 0 + 0 ≤ _)⟩)
  dsimp only [Pt.U, Pt.locs, Pt.cells, Pt.slots] at X1 l1 y1 z1 st1 hQ1
  subst l1 y1 z1
  obtain ⟨rfl, N1q, e1⟩ := hQ1
  have N1 := Fr.app N0 N1q
  refine own_st st1 ?_
  show own_Fin p e below _ (T1.setTop (mkF m 12 #[.val (.int p0), .val (.int (17 : Int32)), .unset, .unset, .unset] [(.ref w_NOT_CONTAINING)]))
  refine own_st (fun t k => XS.astoreN X1.here hx rfl (hb hby at_12) rfl rfl (l' := #[.val (.int p0), .val (.int (17 : Int32)), .val (.ref w_NOT_CONTAINING), .unset, .unset]) rfl k) ?_
  show own_Fin p e below _ (T1.setTop (mkF m 13 #[.val (.int p0), .val (.int (17 : Int32)), .val (.ref w_NOT_CONTAINING), .unset, .unset] []))
  refine own_st (fun t k => XS.iloadN X1.here hx rfl (hb hby at_13) rfl k) ?_
  show own_Fin p e below _ (T1.setTop (mkF m 14 #[.val (.int p0), .val (.int (17 : Int32)), .val (.ref w_NOT_CONTAINING), .unset, .unset] [(.int (17 : Int32))]))
  refine own_st (fun t k => XS.bipush X1.here hx rfl (hb hby at_14) k) ?_
  show own_Fin p e below _ (T1.setTop (mkF m 16 #[.val (.int p0), .val (.int (17 : Int32)), .val (.ref w_NOT_CONTAINING), .unset, .unset] [(.int (18 : Int32)), (.int (17 : Int32))]))
  refine own_st (fun t k => XS.icmpNo X1.here hx rfl (hb hby at_16) rfl (by decide) k) ?_
  show own_Fin p e below _ (T1.setTop (mkF m 19 #[.val (.int p0), .val (.int (17 : Int32)), .val (.ref w_NOT_CONTAINING), .unset, .unset] []))
  refine own_st (fun t k => XS.iloadN X1.here hx rfl (hb hby at_19) rfl k) ?_
  show own_Fin p e below _ (T1.setTop (mkF m 20 #[.val (.int p0), .val (.int (17 : Int32)), .val (.ref w_NOT_CONTAINING), .unset, .unset] [(.int (17 : Int32))]))
  refine own_st (fun t k => XS.bipush X1.here hx rfl (hb hby at_20) k) ?_
  show own_Fin p e below _ (T1.setTop (mkF m 22 #[.val (.int p0), .val (.int (17 : Int32)), .val (.ref w_NOT_CONTAINING), .unset, .unset] [(.int (19 : Int32)), (.int (17 : Int32))]))
  refine own_st (fun t k => XS.icmpYes X1.here hx rfl (pc0 := 22) (pc' := 29) rfl (hb hby at_22) rfl (by decide) (by decide) (by decide) k) ?_
  show own_Fin p e below _ (T1.setTop (mkF m 29 #[.val (.int p0), .val (.int (17 : Int32)), .val (.ref w_NOT_CONTAINING), .unset, .unset] []))
  refine own_st (fun t k => XS.iconst X1.here hx rfl (hb hby at_29) k) ?_
  show own_Fin p e below _ (T1.setTop (mkF m 30 #[.val (.int p0), .val (.int (17 : Int32)), .val (.ref w_NOT_CONTAINING), .unset, .unset] [(.int (0 : Int32))]))
  refine own_st (fun t k => XS.istoreN X1.here hx rfl (hb hby at_30) rfl (l' := #[.val (.int p0), .val (.int (17 : Int32)), .val (.ref w_NOT_CONTAINING), .val (.int (0 : Int32)), .unset]) rfl k) ?_
  show own_Fin p e below _ (T1.setTop (mkF m 31 #[.val (.int p0), .val (.int (17 : Int32)), .val (.ref w_NOT_CONTAINING), .val (.int (0 : Int32)), .unset] []))
  refine own_st (fun t k => XS.aloadN X1.here hx rfl (hb hby at_31) rfl rfl k) ?_
  show own_Fin p e below _ (T1.setTop (mkF m 32 #[.val (.int p0), .val (.int (17 : Int32)), .val (.ref w_NOT_CONTAINING), .val (.int (0 : Int32)), .unset] [(.ref w_NOT_CONTAINING)]))
  obtain ⟨cq2, kq2, q2a, q2b, q2c⟩ := isOf hZ e1 E_NOT_CONTAINING
  obtain ⟨_, _, ⟨T2, L2, k2, n2⟩, -, X2, ⟨Lc2, hQ2, l2, y2, z2⟩, st2⟩ := X1.virtualBack hx (y := (⟨"com/example/rootward/rootward/jdbc/Condition$Operator", "testsTruth", "()Z"⟩ : MethodName)) (z := (⟨"com/example/rootward/rootward/jdbc/Condition$Operator", "testsTruth", "()Z"⟩ : MethodName)) hown (mvT hZ (hw _ (List.mem_of_getElem? (i := 8) rfl))) (mvT hZ (hw _ (List.mem_of_getElem? (i := 9) rfl))) (notFace_of_selects (args := #[]) (mvT hZ (hw _ (List.mem_of_getElem? (i := 11) rfl)))) (mvT hZ (hw _ (List.mem_of_getElem? (i := 11) rfl))) (mvT hZ (hw _ (List.mem_of_getElem? (i := 10) rfl))) (by decide) (backOf (W := 0) (rm2_w_NOT_CONTAINING l Z a0 hw [] w_EQUAL w_IS_TRUE w_IS_FALSE w_GREATER_THAN_OR_EQUAL w_IS_NULL w_IS_NOT_NULL w_STARTING_WITH w_NOT_BETWEEN w_GREATER_THAN w_IN w_NOT_EQUAL w_NOT_IN w_ENDING_WITH w_BETWEEN w_NOT_CONTAINING w_CONTAINING w_LIKE w_LESS_THAN_OR_EQUAL w_LESS_THAN w_NOT_LIKE h0 n0 PN) hZ (hw _ (List.mem_of_getElem? (i := 12) rfl)) (hw _ (List.mem_of_getElem? (i := 6) rfl)) (by decide) (by decide)) q2a q2c (g := (mkF m 32 #[.val (.int p0), .val (.int (17 : Int32)), .val (.ref w_NOT_CONTAINING), .val (.int (0 : Int32)), .unset] [(.ref w_NOT_CONTAINING)])) rfl (by rw [hml]; rfl) (Steps.refl _) (argsL := []) (rest := []) (lenOf pd___Z rfl) rfl (by show 2 * 0 + _ ≤ _; exact Nat.le_of_eq rfl) (hb hby at_32) (fun _ _ => ⟨rfl, e1, (by decide : 0 + 0 ≤ _), (by decide : 0 + 0 ≤ _)⟩)
  dsimp only [Pt.U, Pt.locs, Pt.cells, Pt.slots] at X2 l2 y2 z2 st2 hQ2
  subst l2 y2 z2
  obtain ⟨rfl, N2q, e2⟩ := hQ2
  have N2 := Fr.app N1 N2q
  refine own_tr st2 ?_
  show own_Fin p e below _ (T2.setTop (mkF m 35 #[.val (.int p0), .val (.int (17 : Int32)), .val (.ref w_NOT_CONTAINING), .val (.int (0 : Int32)), .unset] [(.int (0 : Int32))]))
  refine own_st (fun t k => XS.istore X2.here hx rfl (hb hby at_35) rfl (l' := #[.val (.int p0), .val (.int (17 : Int32)), .val (.ref w_NOT_CONTAINING), .val (.int (0 : Int32)), .val (.int (0 : Int32))]) rfl k) ?_
  show own_Fin p e below _ (T2.setTop (mkF m 37 #[.val (.int p0), .val (.int (17 : Int32)), .val (.ref w_NOT_CONTAINING), .val (.int (0 : Int32)), .val (.int (0 : Int32))] []))
  refine own_st (fun t k => XS.iload X2.here hx rfl (hb hby at_37) rfl k) ?_
  show own_Fin p e below _ (T2.setTop (mkF m 39 #[.val (.int p0), .val (.int (17 : Int32)), .val (.ref w_NOT_CONTAINING), .val (.int (0 : Int32)), .val (.int (0 : Int32))] [(.int (0 : Int32))]))
  refine own_st (fun t k => XS.iloadN X2.here hx rfl (hb hby at_39) rfl k) ?_
  show own_Fin p e below _ (T2.setTop (mkF m 40 #[.val (.int p0), .val (.int (17 : Int32)), .val (.ref w_NOT_CONTAINING), .val (.int (0 : Int32)), .val (.int (0 : Int32))] [(.int (0 : Int32)), (.int (0 : Int32))]))
  refine own_st (fun t k => XS.icmpYes X2.here hx rfl (pc0 := 40) (pc' := 45) rfl (hb hby at_40) rfl (by decide) (by decide) (by decide) k) ?_
  show own_Fin p e below _ (T2.setTop (mkF m 45 #[.val (.int p0), .val (.int (17 : Int32)), .val (.ref w_NOT_CONTAINING), .val (.int (0 : Int32)), .val (.int (0 : Int32))] []))
  refine own_st (fun t k => XS.iload X2.here hx rfl (hb hby at_45) rfl k) ?_
  show own_Fin p e below _ (T2.setTop (mkF m 47 #[.val (.int p0), .val (.int (17 : Int32)), .val (.ref w_NOT_CONTAINING), .val (.int (0 : Int32)), .val (.int (0 : Int32))] [(.int (0 : Int32))]))
  refine own_st (fun t k => XS.ifYes X2.here hx rfl (pc0 := 47) (pc' := 73) rfl (hb hby at_47) rfl (by decide) (by decide) (by decide) k) ?_
  show own_Fin p e below _ (T2.setTop (mkF m 73 #[.val (.int p0), .val (.int (17 : Int32)), .val (.ref w_NOT_CONTAINING), .val (.int (0 : Int32)), .val (.int (0 : Int32))] []))
  refine own_st (fun t k => XS.iconst X2.here hx rfl (hb hby at_73) k) ?_
  show own_Fin p e below _ (T2.setTop (mkF m 74 #[.val (.int p0), .val (.int (17 : Int32)), .val (.ref w_NOT_CONTAINING), .val (.int (0 : Int32)), .val (.int (0 : Int32))] [(.int (1 : Int32))]))
  obtain ⟨fs, hr, hrun, hended, hW, hsame⟩ := X2.leave (v := some (.int (1 : Int32))) (fun h => by rw [Bd.returns] at h; cases h)
  exact ⟨_, _, retN X2 hx (t := .boolean) Bd.returns (by simp) (hb hby at_74) hr, hrun, hended, _, _, rfl, ⟨rfl, N2, e2⟩, ⟨_, rfl⟩, hW, hsame.mono (by decide) (by decide)⟩
theorem d1_164 : decode method_2_code 164 = .ok (.getstatic 64, 3) := by decide +kernel
theorem d1_167 : decode method_2_code 167 = .ok (.areturn, 1) := by decide +kernel
set_option maxRecDepth 65536 in
set_option maxHeartbeats 40000000 in
theorem rm1_18 (l : Launch) (Z : State) (a0 : Array Value) (hw : ∀ d ∈ tables_1, d.before a0 Z = true) (ws : List Jvm.Cond) (w_EQUAL w_IS_TRUE w_IS_FALSE w_GREATER_THAN_OR_EQUAL w_IS_NULL w_IS_NOT_NULL w_STARTING_WITH w_NOT_BETWEEN w_GREATER_THAN w_IN w_NOT_EQUAL w_NOT_IN w_ENDING_WITH w_BETWEEN w_NOT_CONTAINING w_CONTAINING w_LIKE w_LESS_THAN_OR_EQUAL w_LESS_THAN w_NOT_LIKE : Addr) (h0 : Heap) (n0 : Nat) (PN : own_Pins Z h0 w_EQUAL w_IS_TRUE w_IS_FALSE w_GREATER_THAN_OR_EQUAL w_IS_NULL w_IS_NOT_NULL w_STARTING_WITH w_NOT_BETWEEN w_GREATER_THAN w_IN w_NOT_EQUAL w_NOT_IN w_ENDING_WITH w_BETWEEN w_NOT_CONTAINING w_CONTAINING w_LIKE w_LESS_THAN_OR_EQUAL w_LESS_THAN w_NOT_LIKE) :
    MetFree l (⟨"com/example/rootward/rootward/jdbc/OperatorTestsTruthPinLaw", "pick", "(I)Lcom/example/rootward/rootward/jdbc/Condition$Operator;"⟩ : MethodName) (head1 (Jvm.Cond.code (⟨"com/example/rootward/rootward/jdbc/OperatorTestsTruthPinLaw", "pick", "(I)Lcom/example/rootward/rootward/jdbc/Condition$Operator;"⟩ : MethodName) method_2_code 1 (some (.object "com/example/rootward/rootward/jdbc/Condition$Operator")) :: ws) ({ frames := 0, cells := 0, slots := 0, locals := 0 } : Room)) (fun a U => a = #[(.int (18 : Int32))] ∧ Z.Warmed39 U.vm ∧ U.heap = h0) (fun _ _ _ _ _ => True) (fun _ U o U' => ∃ v L, o = .returned v ∧ own_Q h0 n0 (some (.ref w_IS_TRUE)) v U'.heap L ∧ FrameEnd U o U' L ({ frames := 0, cells := 0, slots := 0, locals := 0 } : Room).cells ({ frames := 0, cells := 0, slots := 0, locals := 0 } : Room).slots) := by
  have S_IS_TRUE : Sta Z h0 "com/example/rootward/rootward/jdbc/Condition$Operator" "IS_TRUE" "Lcom/example/rootward/rootward/jdbc/Condition$Operator;" (.ref w_IS_TRUE) := PN.2.2.1
  refine MetFree.of_bodySF (plainFor_of_name pn_com_example_rootward_rootward_jdbc_OperatorTestsTruthPinLaw) hisR ?_
  intro p e s m args below meth c s₁ Bd hml0 hP hK
  obtain ⟨rfl, hZ, hh⟩ := hP
  have hx := Bd.exec
  have hby := Bd.bytes
  have hml : c.maxLocals = 1 := hml0
  have hown : s.vm.findClass "com/example/rootward/rootward/jdbc/OperatorTestsTruthPinLaw" = some m.cls := findClass_of_methodNamed Bd.named
  have X0 : Stand p l e ({ frames := 0, cells := 0, slots := 0, locals := 0 } : Room) s m #[(.int (18 : Int32))] below meth c s₁ [] 0 0 := Stand.of_body Bd
  have e0 : s₁.heap = h0 := by rw [← hh, Bd.state]; rfl
  have N0 := Fr.nil n0
  refine (?_ : own_Fin p e below _ _)
  refine own_st (fun t k => castTop (ef_1_I m (18 : Int32)) k) ?_
  show own_Fin p e below _ (s₁.setTop (mkF m 0 #[.val (.int (18 : Int32))] []))
  refine own_st (fun t k => XS.iloadN X0.here hx rfl (hb hby d1_0) rfl k) ?_
  show own_Fin p e below _ (s₁.setTop (mkF m 1 #[.val (.int (18 : Int32))] [(.int (18 : Int32))]))
  refine own_st (fun t k => XS.tswIn X0.here hx rfl (pc0 := 1) (pc' := 164) rfl (hb hby d1_1) rfl (by decide) (o := 163) (by decide) (by decide) (by decide) k) ?_
  show own_Fin p e below _ (s₁.setTop (mkF m 164 #[.val (.int (18 : Int32))] []))
  obtain ⟨T1, X1, e1, st1⟩ := getS2 X0 hx hZ hown (host := "") (Or.inl (hw _ (List.mem_of_getElem? (i := 73) rfl))) Via.refl e0 S_IS_TRUE (g := (mkF m 164 #[.val (.int (18 : Int32))] [])) rfl (hb hby d1_164)
  refine own_st st1 ?_
  show own_Fin p e below _ (T1.setTop (mkF m 167 #[.val (.int (18 : Int32))] [(.ref w_IS_TRUE)]))
  obtain ⟨fs, hr, hrun, hended, hW, hsame⟩ := X1.leave (v := some (.ref w_IS_TRUE)) (fun h => by rw [Bd.returns] at h; cases h)
  exact ⟨_, _, retOut X1 hx (t := (.object "com/example/rootward/rootward/jdbc/Condition$Operator")) Bd.returns rfl (Or.inr (Or.inr (Or.inr (Or.inr ⟨rfl, rfl, rfl⟩)))) (hb hby d1_167) hr, hrun, hended, _, _, rfl, ⟨rfl, N0, e1⟩, ⟨_, rfl⟩, hW, hsame.mono (by decide) (by decide)⟩
theorem d2_14 : decode prog_32_method_8_code 14 = .ok (.iconst 1, 1) := by decide +kernel
theorem d2_15 : decode prog_32_method_8_code 15 = .ok (.goto 4, 3) := by decide +kernel
set_option maxRecDepth 65536 in
set_option maxHeartbeats 40000000 in
theorem rm2_w_IS_TRUE (l : Launch) (Z : State) (a0 : Array Value) (hw : ∀ d ∈ tables_1, d.before a0 Z = true) (ws : List Jvm.Cond) (w_EQUAL w_IS_TRUE w_IS_FALSE w_GREATER_THAN_OR_EQUAL w_IS_NULL w_IS_NOT_NULL w_STARTING_WITH w_NOT_BETWEEN w_GREATER_THAN w_IN w_NOT_EQUAL w_NOT_IN w_ENDING_WITH w_BETWEEN w_NOT_CONTAINING w_CONTAINING w_LIKE w_LESS_THAN_OR_EQUAL w_LESS_THAN w_NOT_LIKE : Addr) (h0 : Heap) (n0 : Nat) (PN : own_Pins Z h0 w_EQUAL w_IS_TRUE w_IS_FALSE w_GREATER_THAN_OR_EQUAL w_IS_NULL w_IS_NOT_NULL w_STARTING_WITH w_NOT_BETWEEN w_GREATER_THAN w_IN w_NOT_EQUAL w_NOT_IN w_ENDING_WITH w_BETWEEN w_NOT_CONTAINING w_CONTAINING w_LIKE w_LESS_THAN_OR_EQUAL w_LESS_THAN w_NOT_LIKE) :
    MetFree l (⟨"com/example/rootward/rootward/jdbc/Condition$Operator", "testsTruth", "()Z"⟩ : MethodName) (head1 (Jvm.Cond.code (⟨"com/example/rootward/rootward/jdbc/Condition$Operator", "testsTruth", "()Z"⟩ : MethodName) prog_32_method_8_code 1 (some .boolean) :: ws) ({ frames := 0, cells := 0, slots := 0, locals := 0 } : Room)) (fun a U => a = #[(.ref w_IS_TRUE)] ∧ Z.Warmed39 U.vm ∧ U.heap = h0) (fun _ _ _ _ _ => True) (fun _ U o U' => ∃ v L, o = .returned v ∧ own_Q h0 n0 (some (.int (1 : Int32))) v U'.heap L ∧ FrameEnd U o U' L ({ frames := 0, cells := 0, slots := 0, locals := 0 } : Room).cells ({ frames := 0, cells := 0, slots := 0, locals := 0 } : Room).slots) := by
  have S_IS_TRUE : Sta Z h0 "com/example/rootward/rootward/jdbc/Condition$Operator" "IS_TRUE" "Lcom/example/rootward/rootward/jdbc/Condition$Operator;" (.ref w_IS_TRUE) := PN.2.2.1
  refine MetFree.of_bodySF (plainFor_of_name pn_com_example_rootward_rootward_jdbc_Condition_Operator) hisR ?_
  intro p e s m args below meth c s₁ Bd hml0 hP hK
  obtain ⟨rfl, hZ, hh⟩ := hP
  have hx := Bd.exec
  have hby := Bd.bytes
  have hml : c.maxLocals = 1 := hml0
  have hown : s.vm.findClass "com/example/rootward/rootward/jdbc/Condition$Operator" = some m.cls := findClass_of_methodNamed Bd.named
  have X0 : Stand p l e ({ frames := 0, cells := 0, slots := 0, locals := 0 } : Room) s m #[(.ref w_IS_TRUE)] below meth c s₁ [] 0 0 := Stand.of_body Bd
  have e0 : s₁.heap = h0 := by rw [← hh, Bd.state]; rfl
  have N0 := Fr.nil n0
  refine (?_ : own_Fin p e below _ _)
  refine own_st (fun t k => castTop (ef_2_R m w_IS_TRUE) k) ?_
  show own_Fin p e below _ (s₁.setTop (mkF m 0 #[.val (.ref w_IS_TRUE)] []))
  refine own_st (fun t k => XS.aloadN X0.here hx rfl (hb hby d2_0) rfl rfl k) ?_
  show own_Fin p e below _ (s₁.setTop (mkF m 1 #[.val (.ref w_IS_TRUE)] [(.ref w_IS_TRUE)]))
  obtain ⟨T1, X1, e1, st1⟩ := getS2 X0 hx hZ hown (host := "") (Or.inl (hw _ (List.mem_of_getElem? (i := 13) rfl))) Via.refl e0 S_IS_TRUE (g := (mkF m 1 #[.val (.ref w_IS_TRUE)] [(.ref w_IS_TRUE)])) rfl (hb hby d2_1)
  refine own_st st1 ?_
  show own_Fin p e below _ (T1.setTop (mkF m 4 #[.val (.ref w_IS_TRUE)] [(.ref w_IS_TRUE), (.ref w_IS_TRUE)]))
  refine own_st (fun t k => Jvm.RoadKit.acmp (g := (mkF m 4 #[.val (.ref w_IS_TRUE)] [(.ref w_IS_TRUE), (.ref w_IS_TRUE)])) X1 hx rfl rfl rfl (pc0 := 4) (pc' := 14) (same := true) rfl (hb hby d2_4) rfl (decide_eq_true rfl) (by decide) (by decide) k) ?_
  show own_Fin p e below _ (T1.setTop (mkF m 14 #[.val (.ref w_IS_TRUE)] []))
  refine own_st (fun t k => XS.iconst X1.here hx rfl (hb hby d2_14) k) ?_
  show own_Fin p e below _ (T1.setTop (mkF m 15 #[.val (.ref w_IS_TRUE)] [(.int (1 : Int32))]))
  refine own_st (fun t k => XS.goto X1.here hx rfl (pc0 := 15) (pc' := 19) rfl (hb hby d2_15) (by decide) (by decide) k) ?_
  show own_Fin p e below _ (T1.setTop (mkF m 19 #[.val (.ref w_IS_TRUE)] [(.int (1 : Int32))]))
  obtain ⟨fs, hr, hrun, hended, hW, hsame⟩ := X1.leave (v := some (.int (1 : Int32))) (fun h => by rw [Bd.returns] at h; cases h)
  exact ⟨_, _, retN X1 hx (t := .boolean) Bd.returns (by simp) (hb hby d2_19) hr, hrun, hended, _, _, rfl, ⟨rfl, N0, e1⟩, ⟨_, rfl⟩, hW, hsame.mono (by decide) (by decide)⟩
theorem d3_0 : decode prog_32_method_5_code 0 = .ok (.aload_n 0, 1) := by decide +kernel
theorem d3_1 : decode prog_32_method_5_code 1 = .ok (.getfield 87, 3) := by decide +kernel
theorem d3_4 : decode prog_32_method_5_code 4 = .ok (.ireturn, 1) := by decide +kernel
theorem ef_3_R (m : MethodId) (x0 : Addr) : entryFrame m #[(.ref x0)] 1 = mkF m 0 #[.val (.ref x0)] [] := by first | (simp [entryFrame, mkF, argsToLocals, Value.category]; done) | rfl
set_option maxRecDepth 65536 in
set_option maxHeartbeats 40000000 in
theorem rm3_w_IS_TRUE (l : Launch) (Z : State) (a0 : Array Value) (hw : ∀ d ∈ tables_1, d.before a0 Z = true) (ws : List Jvm.Cond) (w_EQUAL w_IS_TRUE w_IS_FALSE w_GREATER_THAN_OR_EQUAL w_IS_NULL w_IS_NOT_NULL w_STARTING_WITH w_NOT_BETWEEN w_GREATER_THAN w_IN w_NOT_EQUAL w_NOT_IN w_ENDING_WITH w_BETWEEN w_NOT_CONTAINING w_CONTAINING w_LIKE w_LESS_THAN_OR_EQUAL w_LESS_THAN w_NOT_LIKE : Addr) (h0 : Heap) (n0 : Nat) (PN : own_Pins Z h0 w_EQUAL w_IS_TRUE w_IS_FALSE w_GREATER_THAN_OR_EQUAL w_IS_NULL w_IS_NOT_NULL w_STARTING_WITH w_NOT_BETWEEN w_GREATER_THAN w_IN w_NOT_EQUAL w_NOT_IN w_ENDING_WITH w_BETWEEN w_NOT_CONTAINING w_CONTAINING w_LIKE w_LESS_THAN_OR_EQUAL w_LESS_THAN w_NOT_LIKE) :
    MetFree l (⟨"com/example/rootward/rootward/jdbc/Condition$Operator", "arity", "()I"⟩ : MethodName) (head1 (Jvm.Cond.code (⟨"com/example/rootward/rootward/jdbc/Condition$Operator", "arity", "()I"⟩ : MethodName) prog_32_method_5_code 1 (some .int) :: ws) ({ frames := 0, cells := 0, slots := 0, locals := 0 } : Room)) (fun a U => a = #[(.ref w_IS_TRUE)] ∧ Z.Warmed39 U.vm ∧ U.heap = h0) (fun _ _ _ _ _ => True) (fun _ U o U' => ∃ v L, o = .returned v ∧ own_Q h0 n0 (some (.int (0 : Int32))) v U'.heap L ∧ FrameEnd U o U' L ({ frames := 0, cells := 0, slots := 0, locals := 0 } : Room).cells ({ frames := 0, cells := 0, slots := 0, locals := 0 } : Room).slots) := by
  have F_IS_TRUE_arity : Fld Z h0 w_IS_TRUE "com/example/rootward/rootward/jdbc/Condition$Operator" "arity" "I" (.int 0) := PN.2.2.2.2.2.2.2.2.2.2.2.2.2.2.2.2.2.2.2.2.2.2.2.2.2.2.2.2.2.2.2.2.2.2.2.2.2.2.2.2.2.2.2.2.2.2.2.2.2.2.2.2.2.2.2.2.2.2.2.2.2.2.1
  refine MetFree.of_bodySF (plainFor_of_name pn_com_example_rootward_rootward_jdbc_Condition_Operator) hisR ?_
  intro p e s m args below meth c s₁ Bd hml0 hP hK
  obtain ⟨rfl, hZ, hh⟩ := hP
  have hx := Bd.exec
  have hby := Bd.bytes
  have hml : c.maxLocals = 1 := hml0
  have hown : s.vm.findClass "com/example/rootward/rootward/jdbc/Condition$Operator" = some m.cls := findClass_of_methodNamed Bd.named
  have X0 : Stand p l e ({ frames := 0, cells := 0, slots := 0, locals := 0 } : Room) s m #[(.ref w_IS_TRUE)] below meth c s₁ [] 0 0 := Stand.of_body Bd
  have e0 : s₁.heap = h0 := by rw [← hh, Bd.state]; rfl
  have N0 := Fr.nil n0
  refine (?_ : own_Fin p e below _ _)
  refine own_st (fun t k => castTop (ef_3_R m w_IS_TRUE) k) ?_
  show own_Fin p e below _ (s₁.setTop (mkF m 0 #[.val (.ref w_IS_TRUE)] []))
  refine own_st (fun t k => XS.aloadN X0.here hx rfl (hb hby d3_0) rfl rfl k) ?_
  show own_Fin p e below _ (s₁.setTop (mkF m 1 #[.val (.ref w_IS_TRUE)] [(.ref w_IS_TRUE)]))
  obtain ⟨T1, X1, e1, st1⟩ := getF X0 hx hZ hown (host := "") (Or.inl (hw _ (List.mem_of_getElem? (i := 39) rfl))) Via.refl e0 F_IS_TRUE_arity (g := (mkF m 1 #[.val (.ref w_IS_TRUE)] [(.ref w_IS_TRUE)])) rfl rfl (hb hby d3_1)
  refine own_st st1 ?_
  show own_Fin p e below _ (T1.setTop (mkF m 4 #[.val (.ref w_IS_TRUE)] [(.int (0 : Int32))]))
  obtain ⟨fs, hr, hrun, hended, hW, hsame⟩ := X1.leave (v := some (.int (0 : Int32))) (fun h => by rw [Bd.returns] at h; cases h)
  exact ⟨_, _, retI X1 hx Bd.returns (hb hby d3_4) hr, hrun, hended, _, _, rfl, ⟨rfl, N0, e1⟩, ⟨_, rfl⟩, hW, hsame.mono (by decide) (by decide)⟩
theorem pd___I : parseMethodDescriptor "()I" = some ⟨[], some .int⟩ := by decide +kernel
theorem d4_0 : decode prog_32_method_7_code 0 = .ok (.aload_n 0, 1) := by decide +kernel
theorem d4_1 : decode prog_32_method_7_code 1 = .ok (.getfield 91, 3) := by decide +kernel
theorem d4_4 : decode prog_32_method_7_code 4 = .ok (.ireturn, 1) := by decide +kernel
theorem ef_4_R (m : MethodId) (x0 : Addr) : entryFrame m #[(.ref x0)] 1 = mkF m 0 #[.val (.ref x0)] [] := by first | (simp [entryFrame, mkF, argsToLocals, Value.category]; done) | rfl
set_option maxRecDepth 65536 in
set_option maxHeartbeats 40000000 in
theorem rm4_w_IS_TRUE (l : Launch) (Z : State) (a0 : Array Value) (hw : ∀ d ∈ tables_1, d.before a0 Z = true) (ws : List Jvm.Cond) (w_EQUAL w_IS_TRUE w_IS_FALSE w_GREATER_THAN_OR_EQUAL w_IS_NULL w_IS_NOT_NULL w_STARTING_WITH w_NOT_BETWEEN w_GREATER_THAN w_IN w_NOT_EQUAL w_NOT_IN w_ENDING_WITH w_BETWEEN w_NOT_CONTAINING w_CONTAINING w_LIKE w_LESS_THAN_OR_EQUAL w_LESS_THAN w_NOT_LIKE : Addr) (h0 : Heap) (n0 : Nat) (PN : own_Pins Z h0 w_EQUAL w_IS_TRUE w_IS_FALSE w_GREATER_THAN_OR_EQUAL w_IS_NULL w_IS_NOT_NULL w_STARTING_WITH w_NOT_BETWEEN w_GREATER_THAN w_IN w_NOT_EQUAL w_NOT_IN w_ENDING_WITH w_BETWEEN w_NOT_CONTAINING w_CONTAINING w_LIKE w_LESS_THAN_OR_EQUAL w_LESS_THAN w_NOT_LIKE) :
    MetFree l (⟨"com/example/rootward/rootward/jdbc/Condition$Operator", "takesText", "()Z"⟩ : MethodName) (head1 (Jvm.Cond.code (⟨"com/example/rootward/rootward/jdbc/Condition$Operator", "takesText", "()Z"⟩ : MethodName) prog_32_method_7_code 1 (some .boolean) :: ws) ({ frames := 0, cells := 0, slots := 0, locals := 0 } : Room)) (fun a U => a = #[(.ref w_IS_TRUE)] ∧ Z.Warmed39 U.vm ∧ U.heap = h0) (fun _ _ _ _ _ => True) (fun _ U o U' => ∃ v L, o = .returned v ∧ own_Q h0 n0 (some (.int (0 : Int32))) v U'.heap L ∧ FrameEnd U o U' L ({ frames := 0, cells := 0, slots := 0, locals := 0 } : Room).cells ({ frames := 0, cells := 0, slots := 0, locals := 0 } : Room).slots) := by
  have F_IS_TRUE_text : Fld Z h0 w_IS_TRUE "com/example/rootward/rootward/jdbc/Condition$Operator" "text" "Z" (.int 0) := PN.2.2.2.2.2.2.2.2.2.2.2.2.2.2.2.2.2.2.2.2.2.2.2.2.2.2.2.2.2.2.2.2.2.2.2.2.2.2.2.2.2.2.2.2.2.2.2.2.2.2.2.2.2.2.2.2.2.2.2.2.2.2.2.1
  refine MetFree.of_bodySF (plainFor_of_name pn_com_example_rootward_rootward_jdbc_Condition_Operator) hisR ?_
  intro p e s m args below meth c s₁ Bd hml0 hP hK
  obtain ⟨rfl, hZ, hh⟩ := hP
  have hx := Bd.exec
  have hby := Bd.bytes
  have hml : c.maxLocals = 1 := hml0
  have hown : s.vm.findClass "com/example/rootward/rootward/jdbc/Condition$Operator" = some m.cls := findClass_of_methodNamed Bd.named
  have X0 : Stand p l e ({ frames := 0, cells := 0, slots := 0, locals := 0 } : Room) s m #[(.ref w_IS_TRUE)] below meth c s₁ [] 0 0 := Stand.of_body Bd
  have e0 : s₁.heap = h0 := by rw [← hh, Bd.state]; rfl
  have N0 := Fr.nil n0
  refine (?_ : own_Fin p e below _ _)
  refine own_st (fun t k => castTop (ef_4_R m w_IS_TRUE) k) ?_
  show own_Fin p e below _ (s₁.setTop (mkF m 0 #[.val (.ref w_IS_TRUE)] []))
  refine own_st (fun t k => XS.aloadN X0.here hx rfl (hb hby d4_0) rfl rfl k) ?_
  show own_Fin p e below _ (s₁.setTop (mkF m 1 #[.val (.ref w_IS_TRUE)] [(.ref w_IS_TRUE)]))
  obtain ⟨T1, X1, e1, st1⟩ := getF X0 hx hZ hown (host := "") (Or.inl (hw _ (List.mem_of_getElem? (i := 46) rfl))) Via.refl e0 F_IS_TRUE_text (g := (mkF m 1 #[.val (.ref w_IS_TRUE)] [(.ref w_IS_TRUE)])) rfl rfl (hb hby d4_1)
  refine own_st st1 ?_
  show own_Fin p e below _ (T1.setTop (mkF m 4 #[.val (.ref w_IS_TRUE)] [(.int (0 : Int32))]))
  obtain ⟨fs, hr, hrun, hended, hW, hsame⟩ := X1.leave (v := some (.int (0 : Int32))) (fun h => by rw [Bd.returns] at h; cases h)
  exact ⟨_, _, retN X1 hx (t := .boolean) Bd.returns (by simp) (hb hby d4_4) hr, hrun, hended, _, _, rfl, ⟨rfl, N0, e1⟩, ⟨_, rfl⟩, hW, hsame.mono (by decide) (by decide)⟩
theorem d5_0 : decode prog_32_method_6_code 0 = .ok (.aload_n 0, 1) := by decide +kernel
theorem d5_1 : decode prog_32_method_6_code 1 = .ok (.getstatic 28, 3) := by decide +kernel
theorem d5_4 : decode prog_32_method_6_code 4 = .ok (.if_acmp .eq 10, 3) := by decide +kernel
theorem d5_7 : decode prog_32_method_6_code 7 = .ok (.aload_n 0, 1) := by decide +kernel
theorem d5_8 : decode prog_32_method_6_code 8 = .ok (.getstatic 31, 3) := by decide +kernel
theorem d5_11 : decode prog_32_method_6_code 11 = .ok (.if_acmp .ne 7, 3) := by decide +kernel
theorem d5_18 : decode prog_32_method_6_code 18 = .ok (.iconst 0, 1) := by decide +kernel
theorem d5_19 : decode prog_32_method_6_code 19 = .ok (.ireturn, 1) := by decide +kernel
theorem ef_5_R (m : MethodId) (x0 : Addr) : entryFrame m #[(.ref x0)] 1 = mkF m 0 #[.val (.ref x0)] [] := by first | (simp [entryFrame, mkF, argsToLocals, Value.category]; done) | rfl
set_option maxRecDepth 65536 in
set_option maxHeartbeats 40000000 in
theorem rm5_w_IS_TRUE (l : Launch) (Z : State) (a0 : Array Value) (hw : ∀ d ∈ tables_1, d.before a0 Z = true) (ws : List Jvm.Cond) (w_EQUAL w_IS_TRUE w_IS_FALSE w_GREATER_THAN_OR_EQUAL w_IS_NULL w_IS_NOT_NULL w_STARTING_WITH w_NOT_BETWEEN w_GREATER_THAN w_IN w_NOT_EQUAL w_NOT_IN w_ENDING_WITH w_BETWEEN w_NOT_CONTAINING w_CONTAINING w_LIKE w_LESS_THAN_OR_EQUAL w_LESS_THAN w_NOT_LIKE : Addr) (h0 : Heap) (n0 : Nat) (PN : own_Pins Z h0 w_EQUAL w_IS_TRUE w_IS_FALSE w_GREATER_THAN_OR_EQUAL w_IS_NULL w_IS_NOT_NULL w_STARTING_WITH w_NOT_BETWEEN w_GREATER_THAN w_IN w_NOT_EQUAL w_NOT_IN w_ENDING_WITH w_BETWEEN w_NOT_CONTAINING w_CONTAINING w_LIKE w_LESS_THAN_OR_EQUAL w_LESS_THAN w_NOT_LIKE) :
    MetFree l (⟨"com/example/rootward/rootward/jdbc/Condition$Operator", "takesCollection", "()Z"⟩ : MethodName) (head1 (Jvm.Cond.code (⟨"com/example/rootward/rootward/jdbc/Condition$Operator", "takesCollection", "()Z"⟩ : MethodName) prog_32_method_6_code 1 (some .boolean) :: ws) ({ frames := 0, cells := 0, slots := 0, locals := 0 } : Room)) (fun a U => a = #[(.ref w_IS_TRUE)] ∧ Z.Warmed39 U.vm ∧ U.heap = h0) (fun _ _ _ _ _ => True) (fun _ U o U' => ∃ v L, o = .returned v ∧ own_Q h0 n0 (some (.int (0 : Int32))) v U'.heap L ∧ FrameEnd U o U' L ({ frames := 0, cells := 0, slots := 0, locals := 0 } : Room).cells ({ frames := 0, cells := 0, slots := 0, locals := 0 } : Room).slots) := by
  have S_IN : Sta Z h0 "com/example/rootward/rootward/jdbc/Condition$Operator" "IN" "Lcom/example/rootward/rootward/jdbc/Condition$Operator;" (.ref w_IN) := PN.2.2.2.2.2.2.2.2.2.2.2.2.2.2.2.2.2.2.1
  have S_NOT_IN : Sta Z h0 "com/example/rootward/rootward/jdbc/Condition$Operator" "NOT_IN" "Lcom/example/rootward/rootward/jdbc/Condition$Operator;" (.ref w_NOT_IN) := PN.2.2.2.2.2.2.2.2.2.2.2.2.2.2.2.2.2.2.2.2.2.2.1
  have F_IS_TRUE_ordinal : Fld Z h0 w_IS_TRUE "java/lang/Enum" "ordinal" "I" (.int 18) := PN.2.2.2.2.2.2.2.2.2.2.2.2.2.2.2.2.2.2.2.2.2.2.2.2.2.2.2.2.2.2.2.2.2.2.2.2.2.2.2.2.2.1
  have F_IN_ordinal : Fld Z h0 w_IN "java/lang/Enum" "ordinal" "I" (.int 8) := PN.2.2.2.2.2.2.2.2.2.2.2.2.2.2.2.2.2.2.2.2.2.2.2.2.2.2.2.2.2.2.2.2.2.2.2.2.2.2.2.2.2.2.2.2.2.2.2.2.2.1
  have F_NOT_IN_ordinal : Fld Z h0 w_NOT_IN "java/lang/Enum" "ordinal" "I" (.int 9) := PN.2.2.2.2.2.2.2.2.2.2.2.2.2.2.2.2.2.2.2.2.2.2.2.2.2.2.2.2.2.2.2.2.2.2.2.2.2.2.2.2.2.2.2.2.2.2.2.2.2.2.2.2.2.1
  refine MetFree.of_bodySF (plainFor_of_name pn_com_example_rootward_rootward_jdbc_Condition_Operator) hisR ?_
  intro p e s m args below meth c s₁ Bd hml0 hP hK
  obtain ⟨rfl, hZ, hh⟩ := hP
  have hx := Bd.exec
  have hby := Bd.bytes
  have hml : c.maxLocals = 1 := hml0
  have hown : s.vm.findClass "com/example/rootward/rootward/jdbc/Condition$Operator" = some m.cls := findClass_of_methodNamed Bd.named
  have X0 : Stand p l e ({ frames := 0, cells := 0, slots := 0, locals := 0 } : Room) s m #[(.ref w_IS_TRUE)] below meth c s₁ [] 0 0 := Stand.of_body Bd
  have e0 : s₁.heap = h0 := by rw [← hh, Bd.state]; rfl
  have N0 := Fr.nil n0
  refine (?_ : own_Fin p e below _ _)
  refine own_st (fun t k => castTop (ef_5_R m w_IS_TRUE) k) ?_
  show own_Fin p e below _ (s₁.setTop (mkF m 0 #[.val (.ref w_IS_TRUE)] []))
  refine own_st (fun t k => XS.aloadN X0.here hx rfl (hb hby d5_0) rfl rfl k) ?_
  show own_Fin p e below _ (s₁.setTop (mkF m 1 #[.val (.ref w_IS_TRUE)] [(.ref w_IS_TRUE)]))
  obtain ⟨T1, X1, e1, st1⟩ := getS2 X0 hx hZ hown (host := "") (Or.inl (hw _ (List.mem_of_getElem? (i := 53) rfl))) Via.refl e0 S_IN (g := (mkF m 1 #[.val (.ref w_IS_TRUE)] [(.ref w_IS_TRUE)])) rfl (hb hby d5_1)
  refine own_st st1 ?_
  show own_Fin p e below _ (T1.setTop (mkF m 4 #[.val (.ref w_IS_TRUE)] [(.ref w_IN), (.ref w_IS_TRUE)]))
  refine own_st (fun t k => Jvm.RoadKit.acmp (g := (mkF m 4 #[.val (.ref w_IS_TRUE)] [(.ref w_IN), (.ref w_IS_TRUE)])) X1 hx rfl rfl rfl (pc0 := 4) (pc' := 7) (same := false) rfl (hb hby d5_4) rfl (decide_eq_false fun q => (Fld.ne F_IS_TRUE_ordinal F_IN_ordinal (by simp)) (Value.ref.inj q)) (by decide) (by decide) k) ?_
  show own_Fin p e below _ (T1.setTop (mkF m 7 #[.val (.ref w_IS_TRUE)] []))
  refine own_st (fun t k => XS.aloadN X1.here hx rfl (hb hby d5_7) rfl rfl k) ?_
  show own_Fin p e below _ (T1.setTop (mkF m 8 #[.val (.ref w_IS_TRUE)] [(.ref w_IS_TRUE)]))
  obtain ⟨T2, X2, e2, st2⟩ := getS2 X1 hx hZ hown (host := "") (Or.inl (hw _ (List.mem_of_getElem? (i := 54) rfl))) Via.refl e1 S_NOT_IN (g := (mkF m 8 #[.val (.ref w_IS_TRUE)] [(.ref w_IS_TRUE)])) rfl (hb hby d5_8)
  refine own_st st2 ?_
  show own_Fin p e below _ (T2.setTop (mkF m 11 #[.val (.ref w_IS_TRUE)] [(.ref w_NOT_IN), (.ref w_IS_TRUE)]))
  refine own_st (fun t k => Jvm.RoadKit.acmp (g := (mkF m 11 #[.val (.ref w_IS_TRUE)] [(.ref w_NOT_IN), (.ref w_IS_TRUE)])) X2 hx rfl rfl rfl (pc0 := 11) (pc' := 18) (same := false) rfl (hb hby d5_11) rfl (decide_eq_false fun q => (Fld.ne F_IS_TRUE_ordinal F_NOT_IN_ordinal (by simp)) (Value.ref.inj q)) (by decide) (by decide) k) ?_
  show own_Fin p e below _ (T2.setTop (mkF m 18 #[.val (.ref w_IS_TRUE)] []))
  refine own_st (fun t k => XS.iconst X2.here hx rfl (hb hby d5_18) k) ?_
  show own_Fin p e below _ (T2.setTop (mkF m 19 #[.val (.ref w_IS_TRUE)] [(.int (0 : Int32))]))
  obtain ⟨fs, hr, hrun, hended, hW, hsame⟩ := X2.leave (v := some (.int (0 : Int32))) (fun h => by rw [Bd.returns] at h; cases h)
  exact ⟨_, _, retN X2 hx (t := .boolean) Bd.returns (by simp) (hb hby d5_19) hr, hrun, hended, _, _, rfl, ⟨rfl, N0, e2⟩, ⟨_, rfl⟩, hW, hsame.mono (by decide) (by decide)⟩
set_option maxRecDepth 65536 in
set_option maxHeartbeats 40000000 in
theorem rm0_c18 (l : Launch) (Z : State) (a0 : Array Value) (hw : ∀ d ∈ tables_1, d.before a0 Z = true) (ws : List Jvm.Cond) (w_EQUAL w_IS_TRUE w_IS_FALSE w_GREATER_THAN_OR_EQUAL w_IS_NULL w_IS_NOT_NULL w_STARTING_WITH w_NOT_BETWEEN w_GREATER_THAN w_IN w_NOT_EQUAL w_NOT_IN w_ENDING_WITH w_BETWEEN w_NOT_CONTAINING w_CONTAINING w_LIKE w_LESS_THAN_OR_EQUAL w_LESS_THAN w_NOT_LIKE : Addr) (p0 : Int32) (h0 : Heap) (n0 : Nat) (PN : own_Pins Z h0 w_EQUAL w_IS_TRUE w_IS_FALSE w_GREATER_THAN_OR_EQUAL w_IS_NULL w_IS_NOT_NULL w_STARTING_WITH w_NOT_BETWEEN w_GREATER_THAN w_IN w_NOT_EQUAL w_NOT_IN w_ENDING_WITH w_BETWEEN w_NOT_CONTAINING w_CONTAINING w_LIKE w_LESS_THAN_OR_EQUAL w_LESS_THAN w_NOT_LIKE) (q0 : ((p0 &&& (2147483647 : Int32)) % (20 : Int32)) = (18 : Int32)) :
    MetFree l x (head1 (Jvm.Cond.code x code maxLocals ret :: ws) room_1) (fun a U => a = #[(.int p0)] ∧ Z.Warmed39 U.vm ∧ U.heap = h0) (fun _ _ _ _ _ => True) (fun _ U o U' => ∃ v L, o = .returned v ∧ own_Q h0 n0 (some (.int (1 : Int32))) v U'.heap L ∧ FrameEnd U o U' L room_1.cells room_1.slots) := by
  have E_IS_TRUE : Exa Z h0 w_IS_TRUE "com/example/rootward/rootward/jdbc/Condition$Operator" := PN.2.2.2.1
  refine MetFree.of_bodySF (plainFor_of_name pn_com_example_rootward_rootward_jdbc_OperatorTestsTruthPinLaw) hisR ?_
  intro p e s m args below meth c s₁ Bd hml0 hP hK
  obtain ⟨rfl, hZ, hh⟩ := hP
  have hx := Bd.exec
  have hby := Bd.bytes
  have hml : c.maxLocals = 5 := hml0
  have hown : s.vm.findClass "com/example/rootward/rootward/jdbc/OperatorTestsTruthPinLaw" = some m.cls := findClass_of_methodNamed Bd.named
  have X0 : Stand p l e room_1 s m #[(.int p0)] below meth c s₁ [] 0 0 := Stand.of_body Bd
  have e0 : s₁.heap = h0 := by rw [← hh, Bd.state]; rfl
  have N0 := Fr.nil n0
  refine (?_ : own_Fin p e below _ _)
  refine own_st (fun t k => castTop (ef_0_I m p0) k) ?_
  show own_Fin p e below _ (s₁.setTop (mkF m 0 #[.val (.int p0), .unset, .unset, .unset, .unset] []))
  refine own_st (fun t k => XS.iloadN X0.here hx rfl (hb hby at_0) rfl k) ?_
  show own_Fin p e below _ (s₁.setTop (mkF m 1 #[.val (.int p0), .unset, .unset, .unset, .unset] [(.int p0)]))
  refine own_st (fun t k => X0.ldcI hx hown (mvT hZ (hw _ (List.mem_of_getElem? (i := 0) rfl))) rfl (hb hby at_1) k) ?_
  show own_Fin p e below _ (s₁.setTop (mkF m 3 #[.val (.int p0), .unset, .unset, .unset, .unset] [(.int (2147483647 : Int32)), (.int p0)]))
  refine own_st (fun t k => XS.iand X0.here hx rfl (hb hby at_3) rfl k) ?_
  show own_Fin p e below _ (s₁.setTop (mkF m 4 #[.val (.int p0), .unset, .unset, .unset, .unset] [(.int (p0 &&& (2147483647 : Int32)))]))
  refine own_st (fun t k => XS.bipush X0.here hx rfl (hb hby at_4) k) ?_
  show own_Fin p e below _ (s₁.setTop (mkF m 6 #[.val (.int p0), .unset, .unset, .unset, .unset] [(.int (20 : Int32)), (.int (p0 &&& (2147483647 : Int32)))]))
  refine own_st (fun t k => iremM X0 hx rfl (hb hby at_6) rfl (by decide) k) ?_
  show own_Fin p e below _ (s₁.setTop (mkF m 7 #[.val (.int p0), .unset, .unset, .unset, .unset] [(.int ((p0 &&& (2147483647 : Int32)) % (20 : Int32)))]))
  rw [q0]
  show own_Fin p e below _ (s₁.setTop (mkF m 7 #[.val (.int p0), .unset, .unset, .unset, .unset] [(.int (18 : Int32))]))
  refine own_st (fun t k => XS.istoreN X0.here hx rfl (hb hby at_7) rfl (l' := #[.val (.int p0), .val (.int (18 : Int32)), .unset, .unset, .unset]) rfl k) ?_
  show own_Fin p e below _ (s₁.setTop (mkF m 8 #[.val (.int p0), .val (.int (18 : Int32)), .unset, .unset, .unset] []))
  refine own_st (fun t k => XS.iloadN X0.here hx rfl (hb hby at_8) rfl k) ?_
  show own_Fin p e below _ (s₁.setTop (mkF m 9 #[.val (.int p0), .val (.int (18 : Int32)), .unset, .unset, .unset] [(.int (18 : Int32))]))
  obtain ⟨_, _, ⟨T1, L1, k1, n1⟩, -, X1, ⟨Lc1, hQ1, l1, y1, z1⟩, st1⟩ := Jvm.LawKit.callS X0 hx (y := (⟨"com/example/rootward/rootward/jdbc/OperatorTestsTruthPinLaw", "pick", "(I)Lcom/example/rootward/rootward/jdbc/Condition$Operator;"⟩ : MethodName)) hown (mvT hZ (hw _ (List.mem_of_getElem? (i := 1) rfl))) (mvT hZ (hw _ (List.mem_of_getElem? (i := 2) rfl))) (mvT hZ (hw _ (List.mem_of_getElem? (i := 3) rfl))) (mvT hZ (hw _ (List.mem_of_getElem? (i := 4) rfl))) (by decide) (backOf (W := 0) (rm1_18 l Z a0 hw [] w_EQUAL w_IS_TRUE w_IS_FALSE w_GREATER_THAN_OR_EQUAL w_IS_NULL w_IS_NOT_NULL w_STARTING_WITH w_NOT_BETWEEN w_GREATER_THAN w_IN w_NOT_EQUAL w_NOT_IN w_ENDING_WITH w_BETWEEN w_NOT_CONTAINING w_CONTAINING w_LIKE w_LESS_THAN_OR_EQUAL w_LESS_THAN w_NOT_LIKE h0 n0 PN) hZ (hw _ (List.mem_of_getElem? (i := 4) rfl)) (hw _ (List.mem_of_getElem? (i := 3) rfl)) (by decide) (by decide)) (g := (mkF m 9 #[.val (.int p0), .val (.int (18 : Int32)), .unset, .unset, .unset] [(.int (18 : Int32))])) rfl (by rw [hml]; rfl) (argsL := [(.int (18 : Int32))]) (rest := []) (lenOf pd__I_Lcom_example_rootward_rootward_jdbc_Condition_Operator_ rfl) rfl (by show 2 * 0 + _ ≤ _; exact Nat.le_of_eq rfl) (hb hby at_9) (fun _ _ => ⟨rfl, e0, (by decide : 0 + 0 ≤ _), (by decide : 0 + 0 ≤ _)⟩)
  dsimp only [Pt.U, Pt.locs, Pt.cells, Pt.slots] at X1 l1 y1 z1 st1 hQ1
  subst l1 y1 z1
  obtain ⟨rfl, N1q, e1⟩ := hQ1
  have N1 := Fr.app N0 N1q
  refine own_st st1 ?_
  show own_Fin p e below _ (T1.setTop (mkF m 12 #[.val (.int p0), .val (.int (18 : Int32)), .unset, .unset, .unset] [(.ref w_IS_TRUE)]))
  refine own_st (fun t k => XS.astoreN X1.here hx rfl (hb hby at_12) rfl rfl (l' := #[.val (.int p0), .val (.int (18 : Int32)), .val (.ref w_IS_TRUE), .unset, .unset]) rfl k) ?_
  show own_Fin p e below _ (T1.setTop (mkF m 13 #[.val (.int p0), .val (.int (18 : Int32)), .val (.ref w_IS_TRUE), .unset, .unset] []))
  refine own_st (fun t k => XS.iloadN X1.here hx rfl (hb hby at_13) rfl k) ?_
  show own_Fin p e below _ (T1.setTop (mkF m 14 #[.val (.int p0), .val (.int (18 : Int32)), .val (.ref w_IS_TRUE), .unset, .unset] [(.int (18 : Int32))]))
  refine own_st (fun t k => XS.bipush X1.here hx rfl (hb hby at_14) k) ?_
  show own_Fin p e below _ (T1.setTop (mkF m 16 #[.val (.int p0), .val (.int (18 : Int32)), .val (.ref w_IS_TRUE), .unset, .unset] [(.int (18 : Int32)), (.int (18 : Int32))]))
  refine own_st (fun t k => XS.icmpYes X1.here hx rfl (pc0 := 16) (pc' := 25) rfl (hb hby at_16) rfl (by decide) (by decide) (by decide) k) ?_
  show own_Fin p e below _ (T1.setTop (mkF m 25 #[.val (.int p0), .val (.int (18 : Int32)), .val (.ref w_IS_TRUE), .unset, .unset] []))
  refine own_st (fun t k => XS.iconst X1.here hx rfl (hb hby at_25) k) ?_
  show own_Fin p e below _ (T1.setTop (mkF m 26 #[.val (.int p0), .val (.int (18 : Int32)), .val (.ref w_IS_TRUE), .unset, .unset] [(.int (1 : Int32))]))
  refine own_st (fun t k => XS.goto X1.here hx rfl (pc0 := 26) (pc' := 30) rfl (hb hby at_26) (by decide) (by decide) k) ?_
  show own_Fin p e below _ (T1.setTop (mkF m 30 #[.val (.int p0), .val (.int (18 : Int32)), .val (.ref w_IS_TRUE), .unset, .unset] [(.int (1 : Int32))]))
  refine own_st (fun t k => XS.istoreN X1.here hx rfl (hb hby at_30) rfl (l' := #[.val (.int p0), .val (.int (18 : Int32)), .val (.ref w_IS_TRUE), .val (.int (1 : Int32)), .unset]) rfl k) ?_
  show own_Fin p e below _ (T1.setTop (mkF m 31 #[.val (.int p0), .val (.int (18 : Int32)), .val (.ref w_IS_TRUE), .val (.int (1 : Int32)), .unset] []))
  refine own_st (fun t k => XS.aloadN X1.here hx rfl (hb hby at_31) rfl rfl k) ?_
  show own_Fin p e below _ (T1.setTop (mkF m 32 #[.val (.int p0), .val (.int (18 : Int32)), .val (.ref w_IS_TRUE), .val (.int (1 : Int32)), .unset] [(.ref w_IS_TRUE)]))
  obtain ⟨cq2, kq2, q2a, q2b, q2c⟩ := isOf hZ e1 E_IS_TRUE
  obtain ⟨_, _, ⟨T2, L2, k2, n2⟩, -, X2, ⟨Lc2, hQ2, l2, y2, z2⟩, st2⟩ := X1.virtualBack hx (y := (⟨"com/example/rootward/rootward/jdbc/Condition$Operator", "testsTruth", "()Z"⟩ : MethodName)) (z := (⟨"com/example/rootward/rootward/jdbc/Condition$Operator", "testsTruth", "()Z"⟩ : MethodName)) hown (mvT hZ (hw _ (List.mem_of_getElem? (i := 8) rfl))) (mvT hZ (hw _ (List.mem_of_getElem? (i := 9) rfl))) (notFace_of_selects (args := #[]) (mvT hZ (hw _ (List.mem_of_getElem? (i := 11) rfl)))) (mvT hZ (hw _ (List.mem_of_getElem? (i := 11) rfl))) (mvT hZ (hw _ (List.mem_of_getElem? (i := 10) rfl))) (by decide) (backOf (W := 0) (rm2_w_IS_TRUE l Z a0 hw [] w_EQUAL w_IS_TRUE w_IS_FALSE w_GREATER_THAN_OR_EQUAL w_IS_NULL w_IS_NOT_NULL w_STARTING_WITH w_NOT_BETWEEN w_GREATER_THAN w_IN w_NOT_EQUAL w_NOT_IN w_ENDING_WITH w_BETWEEN w_NOT_CONTAINING w_CONTAINING w_LIKE w_LESS_THAN_OR_EQUAL w_LESS_THAN w_NOT_LIKE h0 n0 PN) hZ (hw _ (List.mem_of_getElem? (i := 12) rfl)) (hw _ (List.mem_of_getElem? (i := 6) rfl)) (by decide) (by decide)) q2a q2c (g := (mkF m 32 #[.val (.int p0), .val (.int (18 : Int32)), .val (.ref w_IS_TRUE), .val (.int (1 : Int32)), .unset] [(.ref w_IS_TRUE)])) rfl (by rw [hml]; rfl) (Steps.refl _) (argsL := []) (rest := []) (lenOf pd___Z rfl) rfl (by show 2 * 0 + _ ≤ _; exact Nat.le_of_eq rfl) (hb hby at_32) (fun _ _ => ⟨rfl, e1, (by decide : 0 + 0 ≤ _), (by decide : 0 + 0 ≤ _)⟩)
  dsimp only [Pt.U, Pt.locs, Pt.cells, Pt.slots] at X2 l2 y2 z2 st2 hQ2
  subst l2 y2 z2
  obtain ⟨rfl, N2q, e2⟩ := hQ2
  have N2 := Fr.app N1 N2q
  refine own_tr st2 ?_
  show own_Fin p e below _ (T2.setTop (mkF m 35 #[.val (.int p0), .val (.int (18 : Int32)), .val (.ref w_IS_TRUE), .val (.int (1 : Int32)), .unset] [(.int (1 : Int32))]))
  refine own_st (fun t k => XS.istore X2.here hx rfl (hb hby at_35) rfl (l' := #[.val (.int p0), .val (.int (18 : Int32)), .val (.ref w_IS_TRUE), .val (.int (1 : Int32)), .val (.int (1 : Int32))]) rfl k) ?_
  show own_Fin p e below _ (T2.setTop (mkF m 37 #[.val (.int p0), .val (.int (18 : Int32)), .val (.ref w_IS_TRUE), .val (.int (1 : Int32)), .val (.int (1 : Int32))] []))
  refine own_st (fun t k => XS.iload X2.here hx rfl (hb hby at_37) rfl k) ?_
  show own_Fin p e below _ (T2.setTop (mkF m 39 #[.val (.int p0), .val (.int (18 : Int32)), .val (.ref w_IS_TRUE), .val (.int (1 : Int32)), .val (.int (1 : Int32))] [(.int (1 : Int32))]))
  refine own_st (fun t k => XS.iloadN X2.here hx rfl (hb hby at_39) rfl k) ?_
  show own_Fin p e below _ (T2.setTop (mkF m 40 #[.val (.int p0), .val (.int (18 : Int32)), .val (.ref w_IS_TRUE), .val (.int (1 : Int32)), .val (.int (1 : Int32))] [(.int (1 : Int32)), (.int (1 : Int32))]))
  refine own_st (fun t k => XS.icmpYes X2.here hx rfl (pc0 := 40) (pc' := 45) rfl (hb hby at_40) rfl (by decide) (by decide) (by decide) k) ?_
  show own_Fin p e below _ (T2.setTop (mkF m 45 #[.val (.int p0), .val (.int (18 : Int32)), .val (.ref w_IS_TRUE), .val (.int (1 : Int32)), .val (.int (1 : Int32))] []))
  refine own_st (fun t k => XS.iload X2.here hx rfl (hb hby at_45) rfl k) ?_
  show own_Fin p e below _ (T2.setTop (mkF m 47 #[.val (.int p0), .val (.int (18 : Int32)), .val (.ref w_IS_TRUE), .val (.int (1 : Int32)), .val (.int (1 : Int32))] [(.int (1 : Int32))]))
  refine own_st (fun t k => XS.ifNo X2.here hx rfl (hb hby at_47) rfl (by decide) k) ?_
  show own_Fin p e below _ (T2.setTop (mkF m 50 #[.val (.int p0), .val (.int (18 : Int32)), .val (.ref w_IS_TRUE), .val (.int (1 : Int32)), .val (.int (1 : Int32))] []))
  refine own_st (fun t k => XS.aloadN X2.here hx rfl (hb hby at_50) rfl rfl k) ?_
  show own_Fin p e below _ (T2.setTop (mkF m 51 #[.val (.int p0), .val (.int (18 : Int32)), .val (.ref w_IS_TRUE), .val (.int (1 : Int32)), .val (.int (1 : Int32))] [(.ref w_IS_TRUE)]))
  obtain ⟨cq3, kq3, q3a, q3b, q3c⟩ := isOf hZ e2 E_IS_TRUE
  obtain ⟨_, _, ⟨T3, L3, k3, n3⟩, -, X3, ⟨Lc3, hQ3, l3, y3, z3⟩, st3⟩ := X2.virtualBack hx (y := (⟨"com/example/rootward/rootward/jdbc/Condition$Operator", "arity", "()I"⟩ : MethodName)) (z := (⟨"com/example/rootward/rootward/jdbc/Condition$Operator", "arity", "()I"⟩ : MethodName)) hown (mvT hZ (hw _ (List.mem_of_getElem? (i := 34) rfl))) (mvT hZ (hw _ (List.mem_of_getElem? (i := 35) rfl))) (notFace_of_selects (args := #[]) (mvT hZ (hw _ (List.mem_of_getElem? (i := 37) rfl)))) (mvT hZ (hw _ (List.mem_of_getElem? (i := 37) rfl))) (mvT hZ (hw _ (List.mem_of_getElem? (i := 36) rfl))) (by decide) (backOf (W := 0) (rm3_w_IS_TRUE l Z a0 hw [] w_EQUAL w_IS_TRUE w_IS_FALSE w_GREATER_THAN_OR_EQUAL w_IS_NULL w_IS_NOT_NULL w_STARTING_WITH w_NOT_BETWEEN w_GREATER_THAN w_IN w_NOT_EQUAL w_NOT_IN w_ENDING_WITH w_BETWEEN w_NOT_CONTAINING w_CONTAINING w_LIKE w_LESS_THAN_OR_EQUAL w_LESS_THAN w_NOT_LIKE h0 n0 PN) hZ (hw _ (List.mem_of_getElem? (i := 38) rfl)) (hw _ (List.mem_of_getElem? (i := 6) rfl)) (by decide) (by decide)) q3a q3c (g := (mkF m 51 #[.val (.int p0), .val (.int (18 : Int32)), .val (.ref w_IS_TRUE), .val (.int (1 : Int32)), .val (.int (1 : Int32))] [(.ref w_IS_TRUE)])) rfl (by rw [hml]; rfl) (Steps.refl _) (argsL := []) (rest := []) (lenOf pd___I rfl) rfl (by show 2 * 0 + _ ≤ _; exact Nat.le_of_eq rfl) (hb hby at_51) (fun _ _ => ⟨rfl, e2, (by decide : 0 + 0 ≤ _), (by decide : 0 + 0 ≤ _)⟩)
  dsimp only [Pt.U, Pt.locs, Pt.cells, Pt.slots] at X3 l3 y3 z3 st3 hQ3
  subst l3 y3 z3
  obtain ⟨rfl, N3q, e3⟩ := hQ3
  have N3 := Fr.app N2 N3q
  refine own_tr st3 ?_
  show own_Fin p e below _ (T3.setTop (mkF m 54 #[.val (.int p0), .val (.int (18 : Int32)), .val (.ref w_IS_TRUE), .val (.int (1 : Int32)), .val (.int (1 : Int32))] [(.int (0 : Int32))]))
  refine own_st (fun t k => XS.ifNo X3.here hx rfl (hb hby at_54) rfl (by decide) k) ?_
  show own_Fin p e below _ (T3.setTop (mkF m 57 #[.val (.int p0), .val (.int (18 : Int32)), .val (.ref w_IS_TRUE), .val (.int (1 : Int32)), .val (.int (1 : Int32))] []))
  refine own_st (fun t k => XS.aloadN X3.here hx rfl (hb hby at_57) rfl rfl k) ?_
  show own_Fin p e below _ (T3.setTop (mkF m 58 #[.val (.int p0), .val (.int (18 : Int32)), .val (.ref w_IS_TRUE), .val (.int (1 : Int32)), .val (.int (1 : Int32))] [(.ref w_IS_TRUE)]))
  obtain ⟨cq4, kq4, q4a, q4b, q4c⟩ := isOf hZ e3 E_IS_TRUE
  obtain ⟨_, _, ⟨T4, L4, k4, n4⟩, -, X4, ⟨Lc4, hQ4, l4, y4, z4⟩, st4⟩ := X3.virtualBack hx (y := (⟨"com/example/rootward/rootward/jdbc/Condition$Operator", "takesText", "()Z"⟩ : MethodName)) (z := (⟨"com/example/rootward/rootward/jdbc/Condition$Operator", "takesText", "()Z"⟩ : MethodName)) hown (mvT hZ (hw _ (List.mem_of_getElem? (i := 41) rfl))) (mvT hZ (hw _ (List.mem_of_getElem? (i := 42) rfl))) (notFace_of_selects (args := #[]) (mvT hZ (hw _ (List.mem_of_getElem? (i := 44) rfl)))) (mvT hZ (hw _ (List.mem_of_getElem? (i := 44) rfl))) (mvT hZ (hw _ (List.mem_of_getElem? (i := 43) rfl))) (by decide) (backOf (W := 0) (rm4_w_IS_TRUE l Z a0 hw [] w_EQUAL w_IS_TRUE w_IS_FALSE w_GREATER_THAN_OR_EQUAL w_IS_NULL w_IS_NOT_NULL w_STARTING_WITH w_NOT_BETWEEN w_GREATER_THAN w_IN w_NOT_EQUAL w_NOT_IN w_ENDING_WITH w_BETWEEN w_NOT_CONTAINING w_CONTAINING w_LIKE w_LESS_THAN_OR_EQUAL w_LESS_THAN w_NOT_LIKE h0 n0 PN) hZ (hw _ (List.mem_of_getElem? (i := 45) rfl)) (hw _ (List.mem_of_getElem? (i := 6) rfl)) (by decide) (by decide)) q4a q4c (g := (mkF m 58 #[.val (.int p0), .val (.int (18 : Int32)), .val (.ref w_IS_TRUE), .val (.int (1 : Int32)), .val (.int (1 : Int32))] [(.ref w_IS_TRUE)])) rfl (by rw [hml]; rfl) (Steps.refl _) (argsL := []) (rest := []) (lenOf pd___Z rfl) rfl (by show 2 * 0 + _ ≤ _; exact Nat.le_of_eq rfl) (hb hby at_58) (fun _ _ => ⟨rfl, e3, (by decide : 0 + 0 ≤ _), (by decide : 0 + 0 ≤ _)⟩)
  dsimp only [Pt.U, Pt.locs, Pt.cells, Pt.slots] at X4 l4 y4 z4 st4 hQ4
  subst l4 y4 z4
  obtain ⟨rfl, N4q, e4⟩ := hQ4
  have N4 := Fr.app N3 N4q
  refine own_tr st4 ?_
  show own_Fin p e below _ (T4.setTop (mkF m 61 #[.val (.int p0), .val (.int (18 : Int32)), .val (.ref w_IS_TRUE), .val (.int (1 : Int32)), .val (.int (1 : Int32))] [(.int (0 : Int32))]))
  refine own_st (fun t k => XS.ifNo X4.here hx rfl (hb hby at_61) rfl (by decide) k) ?_
  show own_Fin p e below _ (T4.setTop (mkF m 64 #[.val (.int p0), .val (.int (18 : Int32)), .val (.ref w_IS_TRUE), .val (.int (1 : Int32)), .val (.int (1 : Int32))] []))
  refine own_st (fun t k => XS.aloadN X4.here hx rfl (hb hby at_64) rfl rfl k) ?_
  show own_Fin p e below _ (T4.setTop (mkF m 65 #[.val (.int p0), .val (.int (18 : Int32)), .val (.ref w_IS_TRUE), .val (.int (1 : Int32)), .val (.int (1 : Int32))] [(.ref w_IS_TRUE)]))
  obtain ⟨cq5, kq5, q5a, q5b, q5c⟩ := isOf hZ e4 E_IS_TRUE
  obtain ⟨_, _, ⟨T5, L5, k5, n5⟩, -, X5, ⟨Lc5, hQ5, l5, y5, z5⟩, st5⟩ := X4.virtualBack hx (y := (⟨"com/example/rootward/rootward/jdbc/Condition$Operator", "takesCollection", "()Z"⟩ : MethodName)) (z := (⟨"com/example/rootward/rootward/jdbc/Condition$Operator", "takesCollection", "()Z"⟩ : MethodName)) hown (mvT hZ (hw _ (List.mem_of_getElem? (i := 48) rfl))) (mvT hZ (hw _ (List.mem_of_getElem? (i := 49) rfl))) (notFace_of_selects (args := #[]) (mvT hZ (hw _ (List.mem_of_getElem? (i := 51) rfl)))) (mvT hZ (hw _ (List.mem_of_getElem? (i := 51) rfl))) (mvT hZ (hw _ (List.mem_of_getElem? (i := 50) rfl))) (by decide) (backOf (W := 0) (rm5_w_IS_TRUE l Z a0 hw [] w_EQUAL w_IS_TRUE w_IS_FALSE w_GREATER_THAN_OR_EQUAL w_IS_NULL w_IS_NOT_NULL w_STARTING_WITH w_NOT_BETWEEN w_GREATER_THAN w_IN w_NOT_EQUAL w_NOT_IN w_ENDING_WITH w_BETWEEN w_NOT_CONTAINING w_CONTAINING w_LIKE w_LESS_THAN_OR_EQUAL w_LESS_THAN w_NOT_LIKE h0 n0 PN) hZ (hw _ (List.mem_of_getElem? (i := 52) rfl)) (hw _ (List.mem_of_getElem? (i := 6) rfl)) (by decide) (by decide)) q5a q5c (g := (mkF m 65 #[.val (.int p0), .val (.int (18 : Int32)), .val (.ref w_IS_TRUE), .val (.int (1 : Int32)), .val (.int (1 : Int32))] [(.ref w_IS_TRUE)])) rfl (by rw [hml]; rfl) (Steps.refl _) (argsL := []) (rest := []) (lenOf pd___Z rfl) rfl (by show 2 * 0 + _ ≤ _; exact Nat.le_of_eq rfl) (hb hby at_65) (fun _ _ => ⟨rfl, e4, (by decide : 0 + 0 ≤ _), (by decide : 0 + 0 ≤ _)⟩)
  dsimp only [Pt.U, Pt.locs, Pt.cells, Pt.slots] at X5 l5 y5 z5 st5 hQ5
  subst l5 y5 z5
  obtain ⟨rfl, N5q, e5⟩ := hQ5
  have N5 := Fr.app N4 N5q
  refine own_tr st5 ?_
  show own_Fin p e below _ (T5.setTop (mkF m 68 #[.val (.int p0), .val (.int (18 : Int32)), .val (.ref w_IS_TRUE), .val (.int (1 : Int32)), .val (.int (1 : Int32))] [(.int (0 : Int32))]))
  refine own_st (fun t k => XS.ifYes X5.here hx rfl (pc0 := 68) (pc' := 73) rfl (hb hby at_68) rfl (by decide) (by decide) (by decide) k) ?_
  show own_Fin p e below _ (T5.setTop (mkF m 73 #[.val (.int p0), .val (.int (18 : Int32)), .val (.ref w_IS_TRUE), .val (.int (1 : Int32)), .val (.int (1 : Int32))] []))
  refine own_st (fun t k => XS.iconst X5.here hx rfl (hb hby at_73) k) ?_
  show own_Fin p e below _ (T5.setTop (mkF m 74 #[.val (.int p0), .val (.int (18 : Int32)), .val (.ref w_IS_TRUE), .val (.int (1 : Int32)), .val (.int (1 : Int32))] [(.int (1 : Int32))]))
  obtain ⟨fs, hr, hrun, hended, hW, hsame⟩ := X5.leave (v := some (.int (1 : Int32))) (fun h => by rw [Bd.returns] at h; cases h)
  exact ⟨_, _, retN X5 hx (t := .boolean) Bd.returns (by simp) (hb hby at_74) hr, hrun, hended, _, _, rfl, ⟨rfl, N5, e5⟩, ⟨_, rfl⟩, hW, hsame.mono (by decide) (by decide)⟩
theorem d1_168 : decode method_2_code 168 = .ok (.getstatic 67, 3) := by decide +kernel
theorem d1_171 : decode method_2_code 171 = .ok (.areturn, 1) := by decide +kernel
set_option maxRecDepth 65536 in
set_option maxHeartbeats 40000000 in
theorem rm1_19 (l : Launch) (Z : State) (a0 : Array Value) (hw : ∀ d ∈ tables_1, d.before a0 Z = true) (ws : List Jvm.Cond) (w_EQUAL w_IS_TRUE w_IS_FALSE w_GREATER_THAN_OR_EQUAL w_IS_NULL w_IS_NOT_NULL w_STARTING_WITH w_NOT_BETWEEN w_GREATER_THAN w_IN w_NOT_EQUAL w_NOT_IN w_ENDING_WITH w_BETWEEN w_NOT_CONTAINING w_CONTAINING w_LIKE w_LESS_THAN_OR_EQUAL w_LESS_THAN w_NOT_LIKE : Addr) (h0 : Heap) (n0 : Nat) (PN : own_Pins Z h0 w_EQUAL w_IS_TRUE w_IS_FALSE w_GREATER_THAN_OR_EQUAL w_IS_NULL w_IS_NOT_NULL w_STARTING_WITH w_NOT_BETWEEN w_GREATER_THAN w_IN w_NOT_EQUAL w_NOT_IN w_ENDING_WITH w_BETWEEN w_NOT_CONTAINING w_CONTAINING w_LIKE w_LESS_THAN_OR_EQUAL w_LESS_THAN w_NOT_LIKE) :
    MetFree l (⟨"com/example/rootward/rootward/jdbc/OperatorTestsTruthPinLaw", "pick", "(I)Lcom/example/rootward/rootward/jdbc/Condition$Operator;"⟩ : MethodName) (head1 (Jvm.Cond.code (⟨"com/example/rootward/rootward/jdbc/OperatorTestsTruthPinLaw", "pick", "(I)Lcom/example/rootward/rootward/jdbc/Condition$Operator;"⟩ : MethodName) method_2_code 1 (some (.object "com/example/rootward/rootward/jdbc/Condition$Operator")) :: ws) ({ frames := 0, cells := 0, slots := 0, locals := 0 } : Room)) (fun a U => a = #[(.int (19 : Int32))] ∧ Z.Warmed39 U.vm ∧ U.heap = h0) (fun _ _ _ _ _ => True) (fun _ U o U' => ∃ v L, o = .returned v ∧ own_Q h0 n0 (some (.ref w_IS_FALSE)) v U'.heap L ∧ FrameEnd U o U' L ({ frames := 0, cells := 0, slots := 0, locals := 0 } : Room).cells ({ frames := 0, cells := 0, slots := 0, locals := 0 } : Room).slots) := by
  have S_IS_FALSE : Sta Z h0 "com/example/rootward/rootward/jdbc/Condition$Operator" "IS_FALSE" "Lcom/example/rootward/rootward/jdbc/Condition$Operator;" (.ref w_IS_FALSE) := PN.2.2.2.2.1
  refine MetFree.of_bodySF (plainFor_of_name pn_com_example_rootward_rootward_jdbc_OperatorTestsTruthPinLaw) hisR ?_
  intro p e s m args below meth c s₁ Bd hml0 hP hK
  obtain ⟨rfl, hZ, hh⟩ := hP
  have hx := Bd.exec
  have hby := Bd.bytes
  have hml : c.maxLocals = 1 := hml0
  have hown : s.vm.findClass "com/example/rootward/rootward/jdbc/OperatorTestsTruthPinLaw" = some m.cls := findClass_of_methodNamed Bd.named
  have X0 : Stand p l e ({ frames := 0, cells := 0, slots := 0, locals := 0 } : Room) s m #[(.int (19 : Int32))] below meth c s₁ [] 0 0 := Stand.of_body Bd
  have e0 : s₁.heap = h0 := by rw [← hh, Bd.state]; rfl
  have N0 := Fr.nil n0
  refine (?_ : own_Fin p e below _ _)
  refine own_st (fun t k => castTop (ef_1_I m (19 : Int32)) k) ?_
  show own_Fin p e below _ (s₁.setTop (mkF m 0 #[.val (.int (19 : Int32))] []))
  refine own_st (fun t k => XS.iloadN X0.here hx rfl (hb hby d1_0) rfl k) ?_
  show own_Fin p e below _ (s₁.setTop (mkF m 1 #[.val (.int (19 : Int32))] [(.int (19 : Int32))]))
  refine own_st (fun t k => XS.tswOut X0.here hx rfl (pc0 := 1) (pc' := 168) rfl (hb hby d1_1) rfl (by decide) (by decide) (by decide) k) ?_
  show own_Fin p e below _ (s₁.setTop (mkF m 168 #[.val (.int (19 : Int32))] []))
  obtain ⟨T1, X1, e1, st1⟩ := getS2 X0 hx hZ hown (host := "") (Or.inl (hw _ (List.mem_of_getElem? (i := 33) rfl))) Via.refl e0 S_IS_FALSE (g := (mkF m 168 #[.val (.int (19 : Int32))] [])) rfl (hb hby d1_168)
  refine own_st st1 ?_
  show own_Fin p e below _ (T1.setTop (mkF m 171 #[.val (.int (19 : Int32))] [(.ref w_IS_FALSE)]))
  obtain ⟨fs, hr, hrun, hended, hW, hsame⟩ := X1.leave (v := some (.ref w_IS_FALSE)) (fun h => by rw [Bd.returns] at h; cases h)
  exact ⟨_, _, retOut X1 hx (t := (.object "com/example/rootward/rootward/jdbc/Condition$Operator")) Bd.returns rfl (Or.inr (Or.inr (Or.inr (Or.inr ⟨rfl, rfl, rfl⟩)))) (hb hby d1_171) hr, hrun, hended, _, _, rfl, ⟨rfl, N0, e1⟩, ⟨_, rfl⟩, hW, hsame.mono (by decide) (by decide)⟩
set_option maxRecDepth 65536 in
set_option maxHeartbeats 40000000 in
theorem rm2_w_IS_FALSE (l : Launch) (Z : State) (a0 : Array Value) (hw : ∀ d ∈ tables_1, d.before a0 Z = true) (ws : List Jvm.Cond) (w_EQUAL w_IS_TRUE w_IS_FALSE w_GREATER_THAN_OR_EQUAL w_IS_NULL w_IS_NOT_NULL w_STARTING_WITH w_NOT_BETWEEN w_GREATER_THAN w_IN w_NOT_EQUAL w_NOT_IN w_ENDING_WITH w_BETWEEN w_NOT_CONTAINING w_CONTAINING w_LIKE w_LESS_THAN_OR_EQUAL w_LESS_THAN w_NOT_LIKE : Addr) (h0 : Heap) (n0 : Nat) (PN : own_Pins Z h0 w_EQUAL w_IS_TRUE w_IS_FALSE w_GREATER_THAN_OR_EQUAL w_IS_NULL w_IS_NOT_NULL w_STARTING_WITH w_NOT_BETWEEN w_GREATER_THAN w_IN w_NOT_EQUAL w_NOT_IN w_ENDING_WITH w_BETWEEN w_NOT_CONTAINING w_CONTAINING w_LIKE w_LESS_THAN_OR_EQUAL w_LESS_THAN w_NOT_LIKE) :
    MetFree l (⟨"com/example/rootward/rootward/jdbc/Condition$Operator", "testsTruth", "()Z"⟩ : MethodName) (head1 (Jvm.Cond.code (⟨"com/example/rootward/rootward/jdbc/Condition$Operator", "testsTruth", "()Z"⟩ : MethodName) prog_32_method_8_code 1 (some .boolean) :: ws) ({ frames := 0, cells := 0, slots := 0, locals := 0 } : Room)) (fun a U => a = #[(.ref w_IS_FALSE)] ∧ Z.Warmed39 U.vm ∧ U.heap = h0) (fun _ _ _ _ _ => True) (fun _ U o U' => ∃ v L, o = .returned v ∧ own_Q h0 n0 (some (.int (1 : Int32))) v U'.heap L ∧ FrameEnd U o U' L ({ frames := 0, cells := 0, slots := 0, locals := 0 } : Room).cells ({ frames := 0, cells := 0, slots := 0, locals := 0 } : Room).slots) := by
  have S_IS_TRUE : Sta Z h0 "com/example/rootward/rootward/jdbc/Condition$Operator" "IS_TRUE" "Lcom/example/rootward/rootward/jdbc/Condition$Operator;" (.ref w_IS_TRUE) := PN.2.2.1
  have S_IS_FALSE : Sta Z h0 "com/example/rootward/rootward/jdbc/Condition$Operator" "IS_FALSE" "Lcom/example/rootward/rootward/jdbc/Condition$Operator;" (.ref w_IS_FALSE) := PN.2.2.2.2.1
  have F_IS_TRUE_ordinal : Fld Z h0 w_IS_TRUE "java/lang/Enum" "ordinal" "I" (.int 18) := PN.2.2.2.2.2.2.2.2.2.2.2.2.2.2.2.2.2.2.2.2.2.2.2.2.2.2.2.2.2.2.2.2.2.2.2.2.2.2.2.2.2.1
  have F_IS_FALSE_ordinal : Fld Z h0 w_IS_FALSE "java/lang/Enum" "ordinal" "I" (.int 19) := PN.2.2.2.2.2.2.2.2.2.2.2.2.2.2.2.2.2.2.2.2.2.2.2.2.2.2.2.2.2.2.2.2.2.2.2.2.2.2.2.2.2.2.1
  refine MetFree.of_bodySF (plainFor_of_name pn_com_example_rootward_rootward_jdbc_Condition_Operator) hisR ?_
  intro p e s m args below meth c s₁ Bd hml0 hP hK
  obtain ⟨rfl, hZ, hh⟩ := hP
  have hx := Bd.exec
  have hby := Bd.bytes
  have hml : c.maxLocals = 1 := hml0
  have hown : s.vm.findClass "com/example/rootward/rootward/jdbc/Condition$Operator" = some m.cls := findClass_of_methodNamed Bd.named
  have X0 : Stand p l e ({ frames := 0, cells := 0, slots := 0, locals := 0 } : Room) s m #[(.ref w_IS_FALSE)] below meth c s₁ [] 0 0 := Stand.of_body Bd
  have e0 : s₁.heap = h0 := by rw [← hh, Bd.state]; rfl
  have N0 := Fr.nil n0
  refine (?_ : own_Fin p e below _ _)
  refine own_st (fun t k => castTop (ef_2_R m w_IS_FALSE) k) ?_
  show own_Fin p e below _ (s₁.setTop (mkF m 0 #[.val (.ref w_IS_FALSE)] []))
  refine own_st (fun t k => XS.aloadN X0.here hx rfl (hb hby d2_0) rfl rfl k) ?_
  show own_Fin p e below _ (s₁.setTop (mkF m 1 #[.val (.ref w_IS_FALSE)] [(.ref w_IS_FALSE)]))
  obtain ⟨T1, X1, e1, st1⟩ := getS2 X0 hx hZ hown (host := "") (Or.inl (hw _ (List.mem_of_getElem? (i := 13) rfl))) Via.refl e0 S_IS_TRUE (g := (mkF m 1 #[.val (.ref w_IS_FALSE)] [(.ref w_IS_FALSE)])) rfl (hb hby d2_1)
  refine own_st st1 ?_
  show own_Fin p e below _ (T1.setTop (mkF m 4 #[.val (.ref w_IS_FALSE)] [(.ref w_IS_TRUE), (.ref w_IS_FALSE)]))
  refine own_st (fun t k => Jvm.RoadKit.acmp (g := (mkF m 4 #[.val (.ref w_IS_FALSE)] [(.ref w_IS_TRUE), (.ref w_IS_FALSE)])) X1 hx rfl rfl rfl (pc0 := 4) (pc' := 7) (same := false) rfl (hb hby d2_4) rfl (decide_eq_false fun q => (Fld.ne F_IS_FALSE_ordinal F_IS_TRUE_ordinal (by simp)) (Value.ref.inj q)) (by decide) (by decide) k) ?_
  show own_Fin p e below _ (T1.setTop (mkF m 7 #[.val (.ref w_IS_FALSE)] []))
  refine own_st (fun t k => XS.aloadN X1.here hx rfl (hb hby d2_7) rfl rfl k) ?_
  show own_Fin p e below _ (T1.setTop (mkF m 8 #[.val (.ref w_IS_FALSE)] [(.ref w_IS_FALSE)]))
  obtain ⟨T2, X2, e2, st2⟩ := getS2 X1 hx hZ hown (host := "") (Or.inl (hw _ (List.mem_of_getElem? (i := 15) rfl))) Via.refl e1 S_IS_FALSE (g := (mkF m 8 #[.val (.ref w_IS_FALSE)] [(.ref w_IS_FALSE)])) rfl (hb hby d2_8)
  refine own_st st2 ?_
  show own_Fin p e below _ (T2.setTop (mkF m 11 #[.val (.ref w_IS_FALSE)] [(.ref w_IS_FALSE), (.ref w_IS_FALSE)]))
  refine own_st (fun t k => Jvm.RoadKit.acmp (g := (mkF m 11 #[.val (.ref w_IS_FALSE)] [(.ref w_IS_FALSE), (.ref w_IS_FALSE)])) X2 hx rfl rfl rfl (pc0 := 11) (pc' := 14) (same := true) rfl (hb hby d2_11) rfl (decide_eq_true rfl) (by decide) (by decide) k) ?_
  show own_Fin p e below _ (T2.setTop (mkF m 14 #[.val (.ref w_IS_FALSE)] []))
  refine own_st (fun t k => XS.iconst X2.here hx rfl (hb hby d2_14) k) ?_
  show own_Fin p e below _ (T2.setTop (mkF m 15 #[.val (.ref w_IS_FALSE)] [(.int (1 : Int32))]))
  refine own_st (fun t k => XS.goto X2.here hx rfl (pc0 := 15) (pc' := 19) rfl (hb hby d2_15) (by decide) (by decide) k) ?_
  show own_Fin p e below _ (T2.setTop (mkF m 19 #[.val (.ref w_IS_FALSE)] [(.int (1 : Int32))]))
  obtain ⟨fs, hr, hrun, hended, hW, hsame⟩ := X2.leave (v := some (.int (1 : Int32))) (fun h => by rw [Bd.returns] at h; cases h)
  exact ⟨_, _, retN X2 hx (t := .boolean) Bd.returns (by simp) (hb hby d2_19) hr, hrun, hended, _, _, rfl, ⟨rfl, N0, e2⟩, ⟨_, rfl⟩, hW, hsame.mono (by decide) (by decide)⟩
set_option maxRecDepth 65536 in
set_option maxHeartbeats 40000000 in
theorem rm3_w_IS_FALSE (l : Launch) (Z : State) (a0 : Array Value) (hw : ∀ d ∈ tables_1, d.before a0 Z = true) (ws : List Jvm.Cond) (w_EQUAL w_IS_TRUE w_IS_FALSE w_GREATER_THAN_OR_EQUAL w_IS_NULL w_IS_NOT_NULL w_STARTING_WITH w_NOT_BETWEEN w_GREATER_THAN w_IN w_NOT_EQUAL w_NOT_IN w_ENDING_WITH w_BETWEEN w_NOT_CONTAINING w_CONTAINING w_LIKE w_LESS_THAN_OR_EQUAL w_LESS_THAN w_NOT_LIKE : Addr) (h0 : Heap) (n0 : Nat) (PN : own_Pins Z h0 w_EQUAL w_IS_TRUE w_IS_FALSE w_GREATER_THAN_OR_EQUAL w_IS_NULL w_IS_NOT_NULL w_STARTING_WITH w_NOT_BETWEEN w_GREATER_THAN w_IN w_NOT_EQUAL w_NOT_IN w_ENDING_WITH w_BETWEEN w_NOT_CONTAINING w_CONTAINING w_LIKE w_LESS_THAN_OR_EQUAL w_LESS_THAN w_NOT_LIKE) :
    MetFree l (⟨"com/example/rootward/rootward/jdbc/Condition$Operator", "arity", "()I"⟩ : MethodName) (head1 (Jvm.Cond.code (⟨"com/example/rootward/rootward/jdbc/Condition$Operator", "arity", "()I"⟩ : MethodName) prog_32_method_5_code 1 (some .int) :: ws) ({ frames := 0, cells := 0, slots := 0, locals := 0 } : Room)) (fun a U => a = #[(.ref w_IS_FALSE)] ∧ Z.Warmed39 U.vm ∧ U.heap = h0) (fun _ _ _ _ _ => True) (fun _ U o U' => ∃ v L, o = .returned v ∧ own_Q h0 n0 (some (.int (0 : Int32))) v U'.heap L ∧ FrameEnd U o U' L ({ frames := 0, cells := 0, slots := 0, locals := 0 } : Room).cells ({ frames := 0, cells := 0, slots := 0, locals := 0 } : Room).slots) := by
  have F_IS_FALSE_arity : Fld Z h0 w_IS_FALSE "com/example/rootward/rootward/jdbc/Condition$Operator" "arity" "I" (.int 0) := PN.2.2.2.2.2.2.2.2.2.2.2.2.2.2.2.2.2.2.2.2.2.2.2.2.2.2.2.2.2.2.2.2.2.2.2.2.2.2.2.2.2.2.2.2.2.2.2.2.2.2.2.1
  refine MetFree.of_bodySF (plainFor_of_name pn_com_example_rootward_rootward_jdbc_Condition_Operator) hisR ?_
  intro p e s m args below meth c s₁ Bd hml0 hP hK
  obtain ⟨rfl, hZ, hh⟩ := hP
  have hx := Bd.exec
  have hby := Bd.bytes
  have hml : c.maxLocals = 1 := hml0
  have hown : s.vm.findClass "com/example/rootward/rootward/jdbc/Condition$Operator" = some m.cls := findClass_of_methodNamed Bd.named
  have X0 : Stand p l e ({ frames := 0, cells := 0, slots := 0, locals := 0 } : Room) s m #[(.ref w_IS_FALSE)] below meth c s₁ [] 0 0 := Stand.of_body Bd
  have e0 : s₁.heap = h0 := by rw [← hh, Bd.state]; rfl
  have N0 := Fr.nil n0
  refine (?_ : own_Fin p e below _ _)
  refine own_st (fun t k => castTop (ef_3_R m w_IS_FALSE) k) ?_
  show own_Fin p e below _ (s₁.setTop (mkF m 0 #[.val (.ref w_IS_FALSE)] []))
  refine own_st (fun t k => XS.aloadN X0.here hx rfl (hb hby d3_0) rfl rfl k) ?_
  show own_Fin p e below _ (s₁.setTop (mkF m 1 #[.val (.ref w_IS_FALSE)] [(.ref w_IS_FALSE)]))
  obtain ⟨T1, X1, e1, st1⟩ := getF X0 hx hZ hown (host := "") (Or.inl (hw _ (List.mem_of_getElem? (i := 39) rfl))) Via.refl e0 F_IS_FALSE_arity (g := (mkF m 1 #[.val (.ref w_IS_FALSE)] [(.ref w_IS_FALSE)])) rfl rfl (hb hby d3_1)
  refine own_st st1 ?_
  show own_Fin p e below _ (T1.setTop (mkF m 4 #[.val (.ref w_IS_FALSE)] [(.int (0 : Int32))]))
  obtain ⟨fs, hr, hrun, hended, hW, hsame⟩ := X1.leave (v := some (.int (0 : Int32))) (fun h => by rw [Bd.returns] at h; cases h)
  exact ⟨_, _, retI X1 hx Bd.returns (hb hby d3_4) hr, hrun, hended, _, _, rfl, ⟨rfl, N0, e1⟩, ⟨_, rfl⟩, hW, hsame.mono (by decide) (by decide)⟩
set_option maxRecDepth 65536 in
set_option maxHeartbeats 40000000 in
theorem rm4_w_IS_FALSE (l : Launch) (Z : State) (a0 : Array Value) (hw : ∀ d ∈ tables_1, d.before a0 Z = true) (ws : List Jvm.Cond) (w_EQUAL w_IS_TRUE w_IS_FALSE w_GREATER_THAN_OR_EQUAL w_IS_NULL w_IS_NOT_NULL w_STARTING_WITH w_NOT_BETWEEN w_GREATER_THAN w_IN w_NOT_EQUAL w_NOT_IN w_ENDING_WITH w_BETWEEN w_NOT_CONTAINING w_CONTAINING w_LIKE w_LESS_THAN_OR_EQUAL w_LESS_THAN w_NOT_LIKE : Addr) (h0 : Heap) (n0 : Nat) (PN : own_Pins Z h0 w_EQUAL w_IS_TRUE w_IS_FALSE w_GREATER_THAN_OR_EQUAL w_IS_NULL w_IS_NOT_NULL w_STARTING_WITH w_NOT_BETWEEN w_GREATER_THAN w_IN w_NOT_EQUAL w_NOT_IN w_ENDING_WITH w_BETWEEN w_NOT_CONTAINING w_CONTAINING w_LIKE w_LESS_THAN_OR_EQUAL w_LESS_THAN w_NOT_LIKE) :
    MetFree l (⟨"com/example/rootward/rootward/jdbc/Condition$Operator", "takesText", "()Z"⟩ : MethodName) (head1 (Jvm.Cond.code (⟨"com/example/rootward/rootward/jdbc/Condition$Operator", "takesText", "()Z"⟩ : MethodName) prog_32_method_7_code 1 (some .boolean) :: ws) ({ frames := 0, cells := 0, slots := 0, locals := 0 } : Room)) (fun a U => a = #[(.ref w_IS_FALSE)] ∧ Z.Warmed39 U.vm ∧ U.heap = h0) (fun _ _ _ _ _ => True) (fun _ U o U' => ∃ v L, o = .returned v ∧ own_Q h0 n0 (some (.int (0 : Int32))) v U'.heap L ∧ FrameEnd U o U' L ({ frames := 0, cells := 0, slots := 0, locals := 0 } : Room).cells ({ frames := 0, cells := 0, slots := 0, locals := 0 } : Room).slots) := by
  have F_IS_FALSE_text : Fld Z h0 w_IS_FALSE "com/example/rootward/rootward/jdbc/Condition$Operator" "text" "Z" (.int 0) := PN.2.2.2.2.2.2.2.2.2.2.2.2.2.2.2.2.2.2.2.2.2.2.2.2.2.2.2.2.2.2.2.2.2.2.2.2.2.2.2.2.2.2.2.2.2.2.2.2.2.2.2.2.1
  refine MetFree.of_bodySF (plainFor_of_name pn_com_example_rootward_rootward_jdbc_Condition_Operator) hisR ?_
  intro p e s m args below meth c s₁ Bd hml0 hP hK
  obtain ⟨rfl, hZ, hh⟩ := hP
  have hx := Bd.exec
  have hby := Bd.bytes
  have hml : c.maxLocals = 1 := hml0
  have hown : s.vm.findClass "com/example/rootward/rootward/jdbc/Condition$Operator" = some m.cls := findClass_of_methodNamed Bd.named
  have X0 : Stand p l e ({ frames := 0, cells := 0, slots := 0, locals := 0 } : Room) s m #[(.ref w_IS_FALSE)] below meth c s₁ [] 0 0 := Stand.of_body Bd
  have e0 : s₁.heap = h0 := by rw [← hh, Bd.state]; rfl
  have N0 := Fr.nil n0
  refine (?_ : own_Fin p e below _ _)
  refine own_st (fun t k => castTop (ef_4_R m w_IS_FALSE) k) ?_
  show own_Fin p e below _ (s₁.setTop (mkF m 0 #[.val (.ref w_IS_FALSE)] []))
  refine own_st (fun t k => XS.aloadN X0.here hx rfl (hb hby d4_0) rfl rfl k) ?_
  show own_Fin p e below _ (s₁.setTop (mkF m 1 #[.val (.ref w_IS_FALSE)] [(.ref w_IS_FALSE)]))
  obtain ⟨T1, X1, e1, st1⟩ := getF X0 hx hZ hown (host := "") (Or.inl (hw _ (List.mem_of_getElem? (i := 46) rfl))) Via.refl e0 F_IS_FALSE_text (g := (mkF m 1 #[.val (.ref w_IS_FALSE)] [(.ref w_IS_FALSE)])) rfl rfl (hb hby d4_1)
  refine own_st st1 ?_
  show own_Fin p e below _ (T1.setTop (mkF m 4 #[.val (.ref w_IS_FALSE)] [(.int (0 : Int32))]))
  obtain ⟨fs, hr, hrun, hended, hW, hsame⟩ := X1.leave (v := some (.int (0 : Int32))) (fun h => by rw [Bd.returns] at h; cases h)
  exact ⟨_, _, retN X1 hx (t := .boolean) Bd.returns (by simp) (hb hby d4_4) hr, hrun, hended, _, _, rfl, ⟨rfl, N0, e1⟩, ⟨_, rfl⟩, hW, hsame.mono (by decide) (by decide)⟩
set_option maxRecDepth 65536 in
set_option maxHeartbeats 40000000 in
theorem rm5_w_IS_FALSE (l : Launch) (Z : State) (a0 : Array Value) (hw : ∀ d ∈ tables_1, d.before a0 Z = true) (ws : List Jvm.Cond) (w_EQUAL w_IS_TRUE w_IS_FALSE w_GREATER_THAN_OR_EQUAL w_IS_NULL w_IS_NOT_NULL w_STARTING_WITH w_NOT_BETWEEN w_GREATER_THAN w_IN w_NOT_EQUAL w_NOT_IN w_ENDING_WITH w_BETWEEN w_NOT_CONTAINING w_CONTAINING w_LIKE w_LESS_THAN_OR_EQUAL w_LESS_THAN w_NOT_LIKE : Addr) (h0 : Heap) (n0 : Nat) (PN : own_Pins Z h0 w_EQUAL w_IS_TRUE w_IS_FALSE w_GREATER_THAN_OR_EQUAL w_IS_NULL w_IS_NOT_NULL w_STARTING_WITH w_NOT_BETWEEN w_GREATER_THAN w_IN w_NOT_EQUAL w_NOT_IN w_ENDING_WITH w_BETWEEN w_NOT_CONTAINING w_CONTAINING w_LIKE w_LESS_THAN_OR_EQUAL w_LESS_THAN w_NOT_LIKE) :
    MetFree l (⟨"com/example/rootward/rootward/jdbc/Condition$Operator", "takesCollection", "()Z"⟩ : MethodName) (head1 (Jvm.Cond.code (⟨"com/example/rootward/rootward/jdbc/Condition$Operator", "takesCollection", "()Z"⟩ : MethodName) prog_32_method_6_code 1 (some .boolean) :: ws) ({ frames := 0, cells := 0, slots := 0, locals := 0 } : Room)) (fun a U => a = #[(.ref w_IS_FALSE)] ∧ Z.Warmed39 U.vm ∧ U.heap = h0) (fun _ _ _ _ _ => True) (fun _ U o U' => ∃ v L, o = .returned v ∧ own_Q h0 n0 (some (.int (0 : Int32))) v U'.heap L ∧ FrameEnd U o U' L ({ frames := 0, cells := 0, slots := 0, locals := 0 } : Room).cells ({ frames := 0, cells := 0, slots := 0, locals := 0 } : Room).slots) := by
  have S_IN : Sta Z h0 "com/example/rootward/rootward/jdbc/Condition$Operator" "IN" "Lcom/example/rootward/rootward/jdbc/Condition$Operator;" (.ref w_IN) := PN.2.2.2.2.2.2.2.2.2.2.2.2.2.2.2.2.2.2.1
  have S_NOT_IN : Sta Z h0 "com/example/rootward/rootward/jdbc/Condition$Operator" "NOT_IN" "Lcom/example/rootward/rootward/jdbc/Condition$Operator;" (.ref w_NOT_IN) := PN.2.2.2.2.2.2.2.2.2.2.2.2.2.2.2.2.2.2.2.2.2.2.1
  have F_IS_FALSE_ordinal : Fld Z h0 w_IS_FALSE "java/lang/Enum" "ordinal" "I" (.int 19) := PN.2.2.2.2.2.2.2.2.2.2.2.2.2.2.2.2.2.2.2.2.2.2.2.2.2.2.2.2.2.2.2.2.2.2.2.2.2.2.2.2.2.2.1
  have F_IN_ordinal : Fld Z h0 w_IN "java/lang/Enum" "ordinal" "I" (.int 8) := PN.2.2.2.2.2.2.2.2.2.2.2.2.2.2.2.2.2.2.2.2.2.2.2.2.2.2.2.2.2.2.2.2.2.2.2.2.2.2.2.2.2.2.2.2.2.2.2.2.2.1
  have F_NOT_IN_ordinal : Fld Z h0 w_NOT_IN "java/lang/Enum" "ordinal" "I" (.int 9) := PN.2.2.2.2.2.2.2.2.2.2.2.2.2.2.2.2.2.2.2.2.2.2.2.2.2.2.2.2.2.2.2.2.2.2.2.2.2.2.2.2.2.2.2.2.2.2.2.2.2.2.2.2.2.1
  refine MetFree.of_bodySF (plainFor_of_name pn_com_example_rootward_rootward_jdbc_Condition_Operator) hisR ?_
  intro p e s m args below meth c s₁ Bd hml0 hP hK
  obtain ⟨rfl, hZ, hh⟩ := hP
  have hx := Bd.exec
  have hby := Bd.bytes
  have hml : c.maxLocals = 1 := hml0
  have hown : s.vm.findClass "com/example/rootward/rootward/jdbc/Condition$Operator" = some m.cls := findClass_of_methodNamed Bd.named
  have X0 : Stand p l e ({ frames := 0, cells := 0, slots := 0, locals := 0 } : Room) s m #[(.ref w_IS_FALSE)] below meth c s₁ [] 0 0 := Stand.of_body Bd
  have e0 : s₁.heap = h0 := by rw [← hh, Bd.state]; rfl
  have N0 := Fr.nil n0
  refine (?_ : own_Fin p e below _ _)
  refine own_st (fun t k => castTop (ef_5_R m w_IS_FALSE) k) ?_
  show own_Fin p e below _ (s₁.setTop (mkF m 0 #[.val (.ref w_IS_FALSE)] []))
  refine own_st (fun t k => XS.aloadN X0.here hx rfl (hb hby d5_0) rfl rfl k) ?_
  show own_Fin p e below _ (s₁.setTop (mkF m 1 #[.val (.ref w_IS_FALSE)] [(.ref w_IS_FALSE)]))
  obtain ⟨T1, X1, e1, st1⟩ := getS2 X0 hx hZ hown (host := "") (Or.inl (hw _ (List.mem_of_getElem? (i := 53) rfl))) Via.refl e0 S_IN (g := (mkF m 1 #[.val (.ref w_IS_FALSE)] [(.ref w_IS_FALSE)])) rfl (hb hby d5_1)
  refine own_st st1 ?_
  show own_Fin p e below _ (T1.setTop (mkF m 4 #[.val (.ref w_IS_FALSE)] [(.ref w_IN), (.ref w_IS_FALSE)]))
  refine own_st (fun t k => Jvm.RoadKit.acmp (g := (mkF m 4 #[.val (.ref w_IS_FALSE)] [(.ref w_IN), (.ref w_IS_FALSE)])) X1 hx rfl rfl rfl (pc0 := 4) (pc' := 7) (same := false) rfl (hb hby d5_4) rfl (decide_eq_false fun q => (Fld.ne F_IS_FALSE_ordinal F_IN_ordinal (by simp)) (Value.ref.inj q)) (by decide) (by decide) k) ?_
  show own_Fin p e below _ (T1.setTop (mkF m 7 #[.val (.ref w_IS_FALSE)] []))
  refine own_st (fun t k => XS.aloadN X1.here hx rfl (hb hby d5_7) rfl rfl k) ?_
  show own_Fin p e below _ (T1.setTop (mkF m 8 #[.val (.ref w_IS_FALSE)] [(.ref w_IS_FALSE)]))
  obtain ⟨T2, X2, e2, st2⟩ := getS2 X1 hx hZ hown (host := "") (Or.inl (hw _ (List.mem_of_getElem? (i := 54) rfl))) Via.refl e1 S_NOT_IN (g := (mkF m 8 #[.val (.ref w_IS_FALSE)] [(.ref w_IS_FALSE)])) rfl (hb hby d5_8)
  refine own_st st2 ?_
  show own_Fin p e below _ (T2.setTop (mkF m 11 #[.val (.ref w_IS_FALSE)] [(.ref w_NOT_IN), (.ref w_IS_FALSE)]))
  refine own_st (fun t k => Jvm.RoadKit.acmp (g := (mkF m 11 #[.val (.ref w_IS_FALSE)] [(.ref w_NOT_IN), (.ref w_IS_FALSE)])) X2 hx rfl rfl rfl (pc0 := 11) (pc' := 18) (same := false) rfl (hb hby d5_11) rfl (decide_eq_false fun q => (Fld.ne F_IS_FALSE_ordinal F_NOT_IN_ordinal (by simp)) (Value.ref.inj q)) (by decide) (by decide) k) ?_
  show own_Fin p e below _ (T2.setTop (mkF m 18 #[.val (.ref w_IS_FALSE)] []))
  refine own_st (fun t k => XS.iconst X2.here hx rfl (hb hby d5_18) k) ?_
  show own_Fin p e below _ (T2.setTop (mkF m 19 #[.val (.ref w_IS_FALSE)] [(.int (0 : Int32))]))
  obtain ⟨fs, hr, hrun, hended, hW, hsame⟩ := X2.leave (v := some (.int (0 : Int32))) (fun h => by rw [Bd.returns] at h; cases h)
  exact ⟨_, _, retN X2 hx (t := .boolean) Bd.returns (by simp) (hb hby d5_19) hr, hrun, hended, _, _, rfl, ⟨rfl, N0, e2⟩, ⟨_, rfl⟩, hW, hsame.mono (by decide) (by decide)⟩
set_option maxRecDepth 65536 in
set_option maxHeartbeats 40000000 in
theorem rm0_c19 (l : Launch) (Z : State) (a0 : Array Value) (hw : ∀ d ∈ tables_1, d.before a0 Z = true) (ws : List Jvm.Cond) (w_EQUAL w_IS_TRUE w_IS_FALSE w_GREATER_THAN_OR_EQUAL w_IS_NULL w_IS_NOT_NULL w_STARTING_WITH w_NOT_BETWEEN w_GREATER_THAN w_IN w_NOT_EQUAL w_NOT_IN w_ENDING_WITH w_BETWEEN w_NOT_CONTAINING w_CONTAINING w_LIKE w_LESS_THAN_OR_EQUAL w_LESS_THAN w_NOT_LIKE : Addr) (p0 : Int32) (h0 : Heap) (n0 : Nat) (PN : own_Pins Z h0 w_EQUAL w_IS_TRUE w_IS_FALSE w_GREATER_THAN_OR_EQUAL w_IS_NULL w_IS_NOT_NULL w_STARTING_WITH w_NOT_BETWEEN w_GREATER_THAN w_IN w_NOT_EQUAL w_NOT_IN w_ENDING_WITH w_BETWEEN w_NOT_CONTAINING w_CONTAINING w_LIKE w_LESS_THAN_OR_EQUAL w_LESS_THAN w_NOT_LIKE) (q0 : ((p0 &&& (2147483647 : Int32)) % (20 : Int32)) = (19 : Int32)) :
    MetFree l x (head1 (Jvm.Cond.code x code maxLocals ret :: ws) room_1) (fun a U => a = #[(.int p0)] ∧ Z.Warmed39 U.vm ∧ U.heap = h0) (fun _ _ _ _ _ => True) (fun _ U o U' => ∃ v L, o = .returned v ∧ own_Q h0 n0 (some (.int (1 : Int32))) v U'.heap L ∧ FrameEnd U o U' L room_1.cells room_1.slots) := by
  have E_IS_FALSE : Exa Z h0 w_IS_FALSE "com/example/rootward/rootward/jdbc/Condition$Operator" := PN.2.2.2.2.2.1
  refine MetFree.of_bodySF (plainFor_of_name pn_com_example_rootward_rootward_jdbc_OperatorTestsTruthPinLaw) hisR ?_
  intro p e s m args below meth c s₁ Bd hml0 hP hK
  obtain ⟨rfl, hZ, hh⟩ := hP
  have hx := Bd.exec
  have hby := Bd.bytes
  have hml : c.maxLocals = 5 := hml0
  have hown : s.vm.findClass "com/example/rootward/rootward/jdbc/OperatorTestsTruthPinLaw" = some m.cls := findClass_of_methodNamed Bd.named
  have X0 : Stand p l e room_1 s m #[(.int p0)] below meth c s₁ [] 0 0 := Stand.of_body Bd
  have e0 : s₁.heap = h0 := by rw [← hh, Bd.state]; rfl
  have N0 := Fr.nil n0
  refine (?_ : own_Fin p e below _ _)
  refine own_st (fun t k => castTop (ef_0_I m p0) k) ?_
  show own_Fin p e below _ (s₁.setTop (mkF m 0 #[.val (.int p0), .unset, .unset, .unset, .unset] []))
  refine own_st (fun t k => XS.iloadN X0.here hx rfl (hb hby at_0) rfl k) ?_
  show own_Fin p e below _ (s₁.setTop (mkF m 1 #[.val (.int p0), .unset, .unset, .unset, .unset] [(.int p0)]))
  refine own_st (fun t k => X0.ldcI hx hown (mvT hZ (hw _ (List.mem_of_getElem? (i := 0) rfl))) rfl (hb hby at_1) k) ?_
  show own_Fin p e below _ (s₁.setTop (mkF m 3 #[.val (.int p0), .unset, .unset, .unset, .unset] [(.int (2147483647 : Int32)), (.int p0)]))
  refine own_st (fun t k => XS.iand X0.here hx rfl (hb hby at_3) rfl k) ?_
  show own_Fin p e below _ (s₁.setTop (mkF m 4 #[.val (.int p0), .unset, .unset, .unset, .unset] [(.int (p0 &&& (2147483647 : Int32)))]))
  refine own_st (fun t k => XS.bipush X0.here hx rfl (hb hby at_4) k) ?_
  show own_Fin p e below _ (s₁.setTop (mkF m 6 #[.val (.int p0), .unset, .unset, .unset, .unset] [(.int (20 : Int32)), (.int (p0 &&& (2147483647 : Int32)))]))
  refine own_st (fun t k => iremM X0 hx rfl (hb hby at_6) rfl (by decide) k) ?_
  show own_Fin p e below _ (s₁.setTop (mkF m 7 #[.val (.int p0), .unset, .unset, .unset, .unset] [(.int ((p0 &&& (2147483647 : Int32)) % (20 : Int32)))]))
  rw [q0]
  show own_Fin p e below _ (s₁.setTop (mkF m 7 #[.val (.int p0), .unset, .unset, .unset, .unset] [(.int (19 : Int32))]))
  refine own_st (fun t k => XS.istoreN X0.here hx rfl (hb hby at_7) rfl (l' := #[.val (.int p0), .val (.int (19 : Int32)), .unset, .unset, .unset]) rfl k) ?_
  show own_Fin p e below _ (s₁.setTop (mkF m 8 #[.val (.int p0), .val (.int (19 : Int32)), .unset, .unset, .unset] []))
  refine own_st (fun t k => XS.iloadN X0.here hx rfl (hb hby at_8) rfl k) ?_
  show own_Fin p e below _ (s₁.setTop (mkF m 9 #[.val (.int p0), .val (.int (19 : Int32)), .unset, .unset, .unset] [(.int (19 : Int32))]))
  obtain ⟨_, _, ⟨T1, L1, k1, n1⟩, -, X1, ⟨Lc1, hQ1, l1, y1, z1⟩, st1⟩ := Jvm.LawKit.callS X0 hx (y := (⟨"com/example/rootward/rootward/jdbc/OperatorTestsTruthPinLaw", "pick", "(I)Lcom/example/rootward/rootward/jdbc/Condition$Operator;"⟩ : MethodName)) hown (mvT hZ (hw _ (List.mem_of_getElem? (i := 1) rfl))) (mvT hZ (hw _ (List.mem_of_getElem? (i := 2) rfl))) (mvT hZ (hw _ (List.mem_of_getElem? (i := 3) rfl))) (mvT hZ (hw _ (List.mem_of_getElem? (i := 4) rfl))) (by decide) (backOf (W := 0) (rm1_19 l Z a0 hw [] w_EQUAL w_IS_TRUE w_IS_FALSE w_GREATER_THAN_OR_EQUAL w_IS_NULL w_IS_NOT_NULL w_STARTING_WITH w_NOT_BETWEEN w_GREATER_THAN w_IN w_NOT_EQUAL w_NOT_IN w_ENDING_WITH w_BETWEEN w_NOT_CONTAINING w_CONTAINING w_LIKE w_LESS_THAN_OR_EQUAL w_LESS_THAN w_NOT_LIKE h0 n0 PN) hZ (hw _ (List.mem_of_getElem? (i := 4) rfl)) (hw _ (List.mem_of_getElem? (i := 3) rfl)) (by decide) (by decide)) (g := (mkF m 9 #[.val (.int p0), .val (.int (19 : Int32)), .unset, .unset, .unset] [(.int (19 : Int32))])) rfl (by rw [hml]; rfl) (argsL := [(.int (19 : Int32))]) (rest := []) (lenOf pd__I_Lcom_example_rootward_rootward_jdbc_Condition_Operator_ rfl) rfl (by show 2 * 0 + _ ≤ _; exact Nat.le_of_eq rfl) (hb hby at_9) (fun _ _ => ⟨rfl, e0, (by decide : 0 + 0 ≤ _), (by decide : 0 + 0 ≤ _)⟩)
  dsimp only [Pt.U, Pt.locs, Pt.cells, Pt.slots] at X1 l1 y1 z1 st1 hQ1
  subst l1 y1 z1
  obtain ⟨rfl, N1q, e1⟩ := hQ1
  have N1 := Fr.app N0 N1q
  refine own_st st1 ?_
  show own_Fin p e below _ (T1.setTop (mkF m 12 #[.val (.int p0), .val (.int (19 : Int32)), .unset, .unset, .unset] [(.ref w_IS_FALSE)]))
  refine own_st (fun t k => XS.astoreN X1.here hx rfl (hb hby at_12) rfl rfl (l' := #[.val (.int p0), .val (.int (19 : Int32)), .val (.ref w_IS_FALSE), .unset, .unset]) rfl k) ?_
  show own_Fin p e below _ (T1.setTop (mkF m 13 #[.val (.int p0), .val (.int (19 : Int32)), .val (.ref w_IS_FALSE), .unset, .unset] []))
  refine own_st (fun t k => XS.iloadN X1.here hx rfl (hb hby at_13) rfl k) ?_
  show own_Fin p e below _ (T1.setTop (mkF m 14 #[.val (.int p0), .val (.int (19 : Int32)), .val (.ref w_IS_FALSE), .unset, .unset] [(.int (19 : Int32))]))
  refine own_st (fun t k => XS.bipush X1.here hx rfl (hb hby at_14) k) ?_
  show own_Fin p e below _ (T1.setTop (mkF m 16 #[.val (.int p0), .val (.int (19 : Int32)), .val (.ref w_IS_FALSE), .unset, .unset] [(.int (18 : Int32)), (.int (19 : Int32))]))
  refine own_st (fun t k => XS.icmpNo X1.here hx rfl (hb hby at_16) rfl (by decide) k) ?_
  show own_Fin p e below _ (T1.setTop (mkF m 19 #[.val (.int p0), .val (.int (19 : Int32)), .val (.ref w_IS_FALSE), .unset, .unset] []))
  refine own_st (fun t k => XS.iloadN X1.here hx rfl (hb hby at_19) rfl k) ?_
  show own_Fin p e below _ (T1.setTop (mkF m 20 #[.val (.int p0), .val (.int (19 : Int32)), .val (.ref w_IS_FALSE), .unset, .unset] [(.int (19 : Int32))]))
  refine own_st (fun t k => XS.bipush X1.here hx rfl (hb hby at_20) k) ?_
  show own_Fin p e below _ (T1.setTop (mkF m 22 #[.val (.int p0), .val (.int (19 : Int32)), .val (.ref w_IS_FALSE), .unset, .unset] [(.int (19 : Int32)), (.int (19 : Int32))]))
  refine own_st (fun t k => XS.icmpNo X1.here hx rfl (hb hby at_22) rfl (by decide) k) ?_
  show own_Fin p e below _ (T1.setTop (mkF m 25 #[.val (.int p0), .val (.int (19 : Int32)), .val (.ref w_IS_FALSE), .unset, .unset] []))
  refine own_st (fun t k => XS.iconst X1.here hx rfl (hb hby at_25) k) ?_
  show own_Fin p e below _ (T1.setTop (mkF m 26 #[.val (.int p0), .val (.int (19 : Int32)), .val (.ref w_IS_FALSE), .unset, .unset] [(.int (1 : Int32))]))
  refine own_st (fun t k => XS.goto X1.here hx rfl (pc0 := 26) (pc' := 30) rfl (hb hby at_26) (by decide) (by decide) k) ?_
  show own_Fin p e below _ (T1.setTop (mkF m 30 #[.val (.int p0), .val (.int (19 : Int32)), .val (.ref w_IS_FALSE), .unset, .unset] [(.int (1 : Int32))]))
  refine own_st (fun t k => XS.istoreN X1.here hx rfl (hb hby at_30) rfl (l' := #[.val (.int p0), .val (.int (19 : Int32)), .val (.ref w_IS_FALSE), .val (.int (1 : Int32)), .unset]) rfl k) ?_
  show own_Fin p e below _ (T1.setTop (mkF m 31 #[.val (.int p0), .val (.int (19 : Int32)), .val (.ref w_IS_FALSE), .val (.int (1 : Int32)), .unset] []))
  refine own_st (fun t k => XS.aloadN X1.here hx rfl (hb hby at_31) rfl rfl k) ?_
  show own_Fin p e below _ (T1.setTop (mkF m 32 #[.val (.int p0), .val (.int (19 : Int32)), .val (.ref w_IS_FALSE), .val (.int (1 : Int32)), .unset] [(.ref w_IS_FALSE)]))
  obtain ⟨cq2, kq2, q2a, q2b, q2c⟩ := isOf hZ e1 E_IS_FALSE
  obtain ⟨_, _, ⟨T2, L2, k2, n2⟩, -, X2, ⟨Lc2, hQ2, l2, y2, z2⟩, st2⟩ := X1.virtualBack hx (y := (⟨"com/example/rootward/rootward/jdbc/Condition$Operator", "testsTruth", "()Z"⟩ : MethodName)) (z := (⟨"com/example/rootward/rootward/jdbc/Condition$Operator", "testsTruth", "()Z"⟩ : MethodName)) hown (mvT hZ (hw _ (List.mem_of_getElem? (i := 8) rfl))) (mvT hZ (hw _ (List.mem_of_getElem? (i := 9) rfl))) (notFace_of_selects (args := #[]) (mvT hZ (hw _ (List.mem_of_getElem? (i := 11) rfl)))) (mvT hZ (hw _ (List.mem_of_getElem? (i := 11) rfl))) (mvT hZ (hw _ (List.mem_of_getElem? (i := 10) rfl))) (by decide) (backOf (W := 0) (rm2_w_IS_FALSE l Z a0 hw [] w_EQUAL w_IS_TRUE w_IS_FALSE w_GREATER_THAN_OR_EQUAL w_IS_NULL w_IS_NOT_NULL w_STARTING_WITH w_NOT_BETWEEN w_GREATER_THAN w_IN w_NOT_EQUAL w_NOT_IN w_ENDING_WITH w_BETWEEN w_NOT_CONTAINING w_CONTAINING w_LIKE w_LESS_THAN_OR_EQUAL w_LESS_THAN w_NOT_LIKE h0 n0 PN) hZ (hw _ (List.mem_of_getElem? (i := 12) rfl)) (hw _ (List.mem_of_getElem? (i := 6) rfl)) (by decide) (by decide)) q2a q2c (g := (mkF m 32 #[.val (.int p0), .val (.int (19 : Int32)), .val (.ref w_IS_FALSE), .val (.int (1 : Int32)), .unset] [(.ref w_IS_FALSE)])) rfl (by rw [hml]; rfl) (Steps.refl _) (argsL := []) (rest := []) (lenOf pd___Z rfl) rfl (by show 2 * 0 + _ ≤ _; exact Nat.le_of_eq rfl) (hb hby at_32) (fun _ _ => ⟨rfl, e1, (by decide : 0 + 0 ≤ _), (by decide : 0 + 0 ≤ _)⟩)
  dsimp only [Pt.U, Pt.locs, Pt.cells, Pt.slots] at X2 l2 y2 z2 st2 hQ2
  subst l2 y2 z2
  obtain ⟨rfl, N2q, e2⟩ := hQ2
  have N2 := Fr.app N1 N2q
  refine own_tr st2 ?_
  show own_Fin p e below _ (T2.setTop (mkF m 35 #[.val (.int p0), .val (.int (19 : Int32)), .val (.ref w_IS_FALSE), .val (.int (1 : Int32)), .unset] [(.int (1 : Int32))]))
  refine own_st (fun t k => XS.istore X2.here hx rfl (hb hby at_35) rfl (l' := #[.val (.int p0), .val (.int (19 : Int32)), .val (.ref w_IS_FALSE), .val (.int (1 : Int32)), .val (.int (1 : Int32))]) rfl k) ?_
  show own_Fin p e below _ (T2.setTop (mkF m 37 #[.val (.int p0), .val (.int (19 : Int32)), .val (.ref w_IS_FALSE), .val (.int (1 : Int32)), .val (.int (1 : Int32))] []))
  refine own_st (fun t k => XS.iload X2.here hx rfl (hb hby at_37) rfl k) ?_
  show own_Fin p e below _ (T2.setTop (mkF m 39 #[.val (.int p0), .val (.int (19 : Int32)), .val (.ref w_IS_FALSE), .val (.int (1 : Int32)), .val (.int (1 : Int32))] [(.int (1 : Int32))]))
  refine own_st (fun t k => XS.iloadN X2.here hx rfl (hb hby at_39) rfl k) ?_
  show own_Fin p e below _ (T2.setTop (mkF m 40 #[.val (.int p0), .val (.int (19 : Int32)), .val (.ref w_IS_FALSE), .val (.int (1 : Int32)), .val (.int (1 : Int32))] [(.int (1 : Int32)), (.int (1 : Int32))]))
  refine own_st (fun t k => XS.icmpYes X2.here hx rfl (pc0 := 40) (pc' := 45) rfl (hb hby at_40) rfl (by decide) (by decide) (by decide) k) ?_
  show own_Fin p e below _ (T2.setTop (mkF m 45 #[.val (.int p0), .val (.int (19 : Int32)), .val (.ref w_IS_FALSE), .val (.int (1 : Int32)), .val (.int (1 : Int32))] []))
  refine own_st (fun t k => XS.iload X2.here hx rfl (hb hby at_45) rfl k) ?_
  show own_Fin p e below _ (T2.setTop (mkF m 47 #[.val (.int p0), .val (.int (19 : Int32)), .val (.ref w_IS_FALSE), .val (.int (1 : Int32)), .val (.int (1 : Int32))] [(.int (1 : Int32))]))
  refine own_st (fun t k => XS.ifNo X2.here hx rfl (hb hby at_47) rfl (by decide) k) ?_
  show own_Fin p e below _ (T2.setTop (mkF m 50 #[.val (.int p0), .val (.int (19 : Int32)), .val (.ref w_IS_FALSE), .val (.int (1 : Int32)), .val (.int (1 : Int32))] []))
  refine own_st (fun t k => XS.aloadN X2.here hx rfl (hb hby at_50) rfl rfl k) ?_
  show own_Fin p e below _ (T2.setTop (mkF m 51 #[.val (.int p0), .val (.int (19 : Int32)), .val (.ref w_IS_FALSE), .val (.int (1 : Int32)), .val (.int (1 : Int32))] [(.ref w_IS_FALSE)]))
  obtain ⟨cq3, kq3, q3a, q3b, q3c⟩ := isOf hZ e2 E_IS_FALSE
  obtain ⟨_, _, ⟨T3, L3, k3, n3⟩, -, X3, ⟨Lc3, hQ3, l3, y3, z3⟩, st3⟩ := X2.virtualBack hx (y := (⟨"com/example/rootward/rootward/jdbc/Condition$Operator", "arity", "()I"⟩ : MethodName)) (z := (⟨"com/example/rootward/rootward/jdbc/Condition$Operator", "arity", "()I"⟩ : MethodName)) hown (mvT hZ (hw _ (List.mem_of_getElem? (i := 34) rfl))) (mvT hZ (hw _ (List.mem_of_getElem? (i := 35) rfl))) (notFace_of_selects (args := #[]) (mvT hZ (hw _ (List.mem_of_getElem? (i := 37) rfl)))) (mvT hZ (hw _ (List.mem_of_getElem? (i := 37) rfl))) (mvT hZ (hw _ (List.mem_of_getElem? (i := 36) rfl))) (by decide) (backOf (W := 0) (rm3_w_IS_FALSE l Z a0 hw [] w_EQUAL w_IS_TRUE w_IS_FALSE w_GREATER_THAN_OR_EQUAL w_IS_NULL w_IS_NOT_NULL w_STARTING_WITH w_NOT_BETWEEN w_GREATER_THAN w_IN w_NOT_EQUAL w_NOT_IN w_ENDING_WITH w_BETWEEN w_NOT_CONTAINING w_CONTAINING w_LIKE w_LESS_THAN_OR_EQUAL w_LESS_THAN w_NOT_LIKE h0 n0 PN) hZ (hw _ (List.mem_of_getElem? (i := 38) rfl)) (hw _ (List.mem_of_getElem? (i := 6) rfl)) (by decide) (by decide)) q3a q3c (g := (mkF m 51 #[.val (.int p0), .val (.int (19 : Int32)), .val (.ref w_IS_FALSE), .val (.int (1 : Int32)), .val (.int (1 : Int32))] [(.ref w_IS_FALSE)])) rfl (by rw [hml]; rfl) (Steps.refl _) (argsL := []) (rest := []) (lenOf pd___I rfl) rfl (by show 2 * 0 + _ ≤ _; exact Nat.le_of_eq rfl) (hb hby at_51) (fun _ _ => ⟨rfl, e2, (by decide : 0 + 0 ≤ _), (by decide : 0 + 0 ≤ _)⟩)
  dsimp only [Pt.U, Pt.locs, Pt.cells, Pt.slots] at X3 l3 y3 z3 st3 hQ3
  subst l3 y3 z3
  obtain ⟨rfl, N3q, e3⟩ := hQ3
  have N3 := Fr.app N2 N3q
  refine own_tr st3 ?_
  show own_Fin p e below _ (T3.setTop (mkF m 54 #[.val (.int p0), .val (.int (19 : Int32)), .val (.ref w_IS_FALSE), .val (.int (1 : Int32)), .val (.int (1 : Int32))] [(.int (0 : Int32))]))
  refine own_st (fun t k => XS.ifNo X3.here hx rfl (hb hby at_54) rfl (by decide) k) ?_
  show own_Fin p e below _ (T3.setTop (mkF m 57 #[.val (.int p0), .val (.int (19 : Int32)), .val (.ref w_IS_FALSE), .val (.int (1 : Int32)), .val (.int (1 : Int32))] []))
  refine own_st (fun t k => XS.aloadN X3.here hx rfl (hb hby at_57) rfl rfl k) ?_
  show own_Fin p e below _ (T3.setTop (mkF m 58 #[.val (.int p0), .val (.int (19 : Int32)), .val (.ref w_IS_FALSE), .val (.int (1 : Int32)), .val (.int (1 : Int32))] [(.ref w_IS_FALSE)]))
  obtain ⟨cq4, kq4, q4a, q4b, q4c⟩ := isOf hZ e3 E_IS_FALSE
  obtain ⟨_, _, ⟨T4, L4, k4, n4⟩, -, X4, ⟨Lc4, hQ4, l4, y4, z4⟩, st4⟩ := X3.virtualBack hx (y := (⟨"com/example/rootward/rootward/jdbc/Condition$Operator", "takesText", "()Z"⟩ : MethodName)) (z := (⟨"com/example/rootward/rootward/jdbc/Condition$Operator", "takesText", "()Z"⟩ : MethodName)) hown (mvT hZ (hw _ (List.mem_of_getElem? (i := 41) rfl))) (mvT hZ (hw _ (List.mem_of_getElem? (i := 42) rfl))) (notFace_of_selects (args := #[]) (mvT hZ (hw _ (List.mem_of_getElem? (i := 44) rfl)))) (mvT hZ (hw _ (List.mem_of_getElem? (i := 44) rfl))) (mvT hZ (hw _ (List.mem_of_getElem? (i := 43) rfl))) (by decide) (backOf (W := 0) (rm4_w_IS_FALSE l Z a0 hw [] w_EQUAL w_IS_TRUE w_IS_FALSE w_GREATER_THAN_OR_EQUAL w_IS_NULL w_IS_NOT_NULL w_STARTING_WITH w_NOT_BETWEEN w_GREATER_THAN w_IN w_NOT_EQUAL w_NOT_IN w_ENDING_WITH w_BETWEEN w_NOT_CONTAINING w_CONTAINING w_LIKE w_LESS_THAN_OR_EQUAL w_LESS_THAN w_NOT_LIKE h0 n0 PN) hZ (hw _ (List.mem_of_getElem? (i := 45) rfl)) (hw _ (List.mem_of_getElem? (i := 6) rfl)) (by decide) (by decide)) q4a q4c (g := (mkF m 58 #[.val (.int p0), .val (.int (19 : Int32)), .val (.ref w_IS_FALSE), .val (.int (1 : Int32)), .val (.int (1 : Int32))] [(.ref w_IS_FALSE)])) rfl (by rw [hml]; rfl) (Steps.refl _) (argsL := []) (rest := []) (lenOf pd___Z rfl) rfl (by show 2 * 0 + _ ≤ _; exact Nat.le_of_eq rfl) (hb hby at_58) (fun _ _ => ⟨rfl, e3, (by decide : 0 + 0 ≤ _), (by decide : 0 + 0 ≤ _)⟩)
  dsimp only [Pt.U, Pt.locs, Pt.cells, Pt.slots] at X4 l4 y4 z4 st4 hQ4
  subst l4 y4 z4
  obtain ⟨rfl, N4q, e4⟩ := hQ4
  have N4 := Fr.app N3 N4q
  refine own_tr st4 ?_
  show own_Fin p e below _ (T4.setTop (mkF m 61 #[.val (.int p0), .val (.int (19 : Int32)), .val (.ref w_IS_FALSE), .val (.int (1 : Int32)), .val (.int (1 : Int32))] [(.int (0 : Int32))]))
  refine own_st (fun t k => XS.ifNo X4.here hx rfl (hb hby at_61) rfl (by decide) k) ?_
  show own_Fin p e below _ (T4.setTop (mkF m 64 #[.val (.int p0), .val (.int (19 : Int32)), .val (.ref w_IS_FALSE), .val (.int (1 : Int32)), .val (.int (1 : Int32))] []))
  refine own_st (fun t k => XS.aloadN X4.here hx rfl (hb hby at_64) rfl rfl k) ?_
  show own_Fin p e below _ (T4.setTop (mkF m 65 #[.val (.int p0), .val (.int (19 : Int32)), .val (.ref w_IS_FALSE), .val (.int (1 : Int32)), .val (.int (1 : Int32))] [(.ref w_IS_FALSE)]))
  obtain ⟨cq5, kq5, q5a, q5b, q5c⟩ := isOf hZ e4 E_IS_FALSE
  obtain ⟨_, _, ⟨T5, L5, k5, n5⟩, -, X5, ⟨Lc5, hQ5, l5, y5, z5⟩, st5⟩ := X4.virtualBack hx (y := (⟨"com/example/rootward/rootward/jdbc/Condition$Operator", "takesCollection", "()Z"⟩ : MethodName)) (z := (⟨"com/example/rootward/rootward/jdbc/Condition$Operator", "takesCollection", "()Z"⟩ : MethodName)) hown (mvT hZ (hw _ (List.mem_of_getElem? (i := 48) rfl))) (mvT hZ (hw _ (List.mem_of_getElem? (i := 49) rfl))) (notFace_of_selects (args := #[]) (mvT hZ (hw _ (List.mem_of_getElem? (i := 51) rfl)))) (mvT hZ (hw _ (List.mem_of_getElem? (i := 51) rfl))) (mvT hZ (hw _ (List.mem_of_getElem? (i := 50) rfl))) (by decide) (backOf (W := 0) (rm5_w_IS_FALSE l Z a0 hw [] w_EQUAL w_IS_TRUE w_IS_FALSE w_GREATER_THAN_OR_EQUAL w_IS_NULL w_IS_NOT_NULL w_STARTING_WITH w_NOT_BETWEEN w_GREATER_THAN w_IN w_NOT_EQUAL w_NOT_IN w_ENDING_WITH w_BETWEEN w_NOT_CONTAINING w_CONTAINING w_LIKE w_LESS_THAN_OR_EQUAL w_LESS_THAN w_NOT_LIKE h0 n0 PN) hZ (hw _ (List.mem_of_getElem? (i := 52) rfl)) (hw _ (List.mem_of_getElem? (i := 6) rfl)) (by decide) (by decide)) q5a q5c (g := (mkF m 65 #[.val (.int p0), .val (.int (19 : Int32)), .val (.ref w_IS_FALSE), .val (.int (1 : Int32)), .val (.int (1 : Int32))] [(.ref w_IS_FALSE)])) rfl (by rw [hml]; rfl) (Steps.refl _) (argsL := []) (rest := []) (lenOf pd___Z rfl) rfl (by show 2 * 0 + _ ≤ _; exact Nat.le_of_eq rfl) (hb hby at_65) (fun _ _ => ⟨rfl, e4, (by decide : 0 + 0 ≤ _), (by decide : 0 + 0 ≤ _)⟩)
  dsimp only [Pt.U, Pt.locs, Pt.cells, Pt.slots] at X5 l5 y5 z5 st5 hQ5
  subst l5 y5 z5
  obtain ⟨rfl, N5q, e5⟩ := hQ5
  have N5 := Fr.app N4 N5q
  refine own_tr st5 ?_
  show own_Fin p e below _ (T5.setTop (mkF m 68 #[.val (.int p0), .val (.int (19 : Int32)), .val (.ref w_IS_FALSE), .val (.int (1 : Int32)), .val (.int (1 : Int32))] [(.int (0 : Int32))]))
  refine own_st (fun t k => XS.ifYes X5.here hx rfl (pc0 := 68) (pc' := 73) rfl (hb hby at_68) rfl (by decide) (by decide) (by decide) k) ?_
  show own_Fin p e below _ (T5.setTop (mkF m 73 #[.val (.int p0), .val (.int (19 : Int32)), .val (.ref w_IS_FALSE), .val (.int (1 : Int32)), .val (.int (1 : Int32))] []))
  refine own_st (fun t k => XS.iconst X5.here hx rfl (hb hby at_73) k) ?_
  show own_Fin p e below _ (T5.setTop (mkF m 74 #[.val (.int p0), .val (.int (19 : Int32)), .val (.ref w_IS_FALSE), .val (.int (1 : Int32)), .val (.int (1 : Int32))] [(.int (1 : Int32))]))
  obtain ⟨fs, hr, hrun, hended, hW, hsame⟩ := X5.leave (v := some (.int (1 : Int32))) (fun h => by rw [Bd.returns] at h; cases h)
  exact ⟨_, _, retN X5 hx (t := .boolean) Bd.returns (by simp) (hb hby at_74) hr, hrun, hended, _, _, rfl, ⟨rfl, N5, e5⟩, ⟨_, rfl⟩, hW, hsame.mono (by decide) (by decide)⟩
theorem rm0 (l : Launch) (Z : State) (a0 : Array Value) (hw : ∀ d ∈ tables_1, d.before a0 Z = true) (ws : List Jvm.Cond) (w_EQUAL w_IS_TRUE w_IS_FALSE w_GREATER_THAN_OR_EQUAL w_IS_NULL w_IS_NOT_NULL w_STARTING_WITH w_NOT_BETWEEN w_GREATER_THAN w_IN w_NOT_EQUAL w_NOT_IN w_ENDING_WITH w_BETWEEN w_NOT_CONTAINING w_CONTAINING w_LIKE w_LESS_THAN_OR_EQUAL w_LESS_THAN w_NOT_LIKE : Addr) (p0 : Int32) (h0 : Heap) (n0 : Nat) (PN : own_Pins Z h0 w_EQUAL w_IS_TRUE w_IS_FALSE w_GREATER_THAN_OR_EQUAL w_IS_NULL w_IS_NOT_NULL w_STARTING_WITH w_NOT_BETWEEN w_GREATER_THAN w_IN w_NOT_EQUAL w_NOT_IN w_ENDING_WITH w_BETWEEN w_NOT_CONTAINING w_CONTAINING w_LIKE w_LESS_THAN_OR_EQUAL w_LESS_THAN w_NOT_LIKE) :
    MetFree l x (head1 (Jvm.Cond.code x code maxLocals ret :: ws) room_1) (fun a U => a = #[(.int p0)] ∧ Z.Warmed39 U.vm ∧ U.heap = h0) (fun _ _ _ _ _ => True) (fun _ U o U' => ∃ v L, o = .returned v ∧ own_Q h0 n0 (some (.int (1 : Int32))) v U'.heap L ∧ FrameEnd U o U' L room_1.cells room_1.slots) := by
  rcases own_mod20 p0 with q0 | q0 | q0 | q0 | q0 | q0 | q0 | q0 | q0 | q0 | q0 | q0 | q0 | q0 | q0 | q0 | q0 | q0 | q0 | q0
  ·
    exact rm0_c0 l Z a0 hw ws w_EQUAL w_IS_TRUE w_IS_FALSE w_GREATER_THAN_OR_EQUAL w_IS_NULL w_IS_NOT_NULL w_STARTING_WITH w_NOT_BETWEEN w_GREATER_THAN w_IN w_NOT_EQUAL w_NOT_IN w_ENDING_WITH w_BETWEEN w_NOT_CONTAINING w_CONTAINING w_LIKE w_LESS_THAN_OR_EQUAL w_LESS_THAN w_NOT_LIKE p0 h0 n0 PN q0
  ·
    exact rm0_c1 l Z a0 hw ws w_EQUAL w_IS_TRUE w_IS_FALSE w_GREATER_THAN_OR_EQUAL w_IS_NULL w_IS_NOT_NULL w_STARTING_WITH w_NOT_BETWEEN w_GREATER_THAN w_IN w_NOT_EQUAL w_NOT_IN w_ENDING_WITH w_BETWEEN w_NOT_CONTAINING w_CONTAINING w_LIKE w_LESS_THAN_OR_EQUAL w_LESS_THAN w_NOT_LIKE p0 h0 n0 PN q0
  ·
    exact rm0_c2 l Z a0 hw ws w_EQUAL w_IS_TRUE w_IS_FALSE w_GREATER_THAN_OR_EQUAL w_IS_NULL w_IS_NOT_NULL w_STARTING_WITH w_NOT_BETWEEN w_GREATER_THAN w_IN w_NOT_EQUAL w_NOT_IN w_ENDING_WITH w_BETWEEN w_NOT_CONTAINING w_CONTAINING w_LIKE w_LESS_THAN_OR_EQUAL w_LESS_THAN w_NOT_LIKE p0 h0 n0 PN q0
  ·
    exact rm0_c3 l Z a0 hw ws w_EQUAL w_IS_TRUE w_IS_FALSE w_GREATER_THAN_OR_EQUAL w_IS_NULL w_IS_NOT_NULL w_STARTING_WITH w_NOT_BETWEEN w_GREATER_THAN w_IN w_NOT_EQUAL w_NOT_IN w_ENDING_WITH w_BETWEEN w_NOT_CONTAINING w_CONTAINING w_LIKE w_LESS_THAN_OR_EQUAL w_LESS_THAN w_NOT_LIKE p0 h0 n0 PN q0
  ·
    exact rm0_c4 l Z a0 hw ws w_EQUAL w_IS_TRUE w_IS_FALSE w_GREATER_THAN_OR_EQUAL w_IS_NULL w_IS_NOT_NULL w_STARTING_WITH w_NOT_BETWEEN w_GREATER_THAN w_IN w_NOT_EQUAL w_NOT_IN w_ENDING_WITH w_BETWEEN w_NOT_CONTAINING w_CONTAINING w_LIKE w_LESS_THAN_OR_EQUAL w_LESS_THAN w_NOT_LIKE p0 h0 n0 PN q0
  ·
    exact rm0_c5 l Z a0 hw ws w_EQUAL w_IS_TRUE w_IS_FALSE w_GREATER_THAN_OR_EQUAL w_IS_NULL w_IS_NOT_NULL w_STARTING_WITH w_NOT_BETWEEN w_GREATER_THAN w_IN w_NOT_EQUAL w_NOT_IN w_ENDING_WITH w_BETWEEN w_NOT_CONTAINING w_CONTAINING w_LIKE w_LESS_THAN_OR_EQUAL w_LESS_THAN w_NOT_LIKE p0 h0 n0 PN q0
  ·
    exact rm0_c6 l Z a0 hw ws w_EQUAL w_IS_TRUE w_IS_FALSE w_GREATER_THAN_OR_EQUAL w_IS_NULL w_IS_NOT_NULL w_STARTING_WITH w_NOT_BETWEEN w_GREATER_THAN w_IN w_NOT_EQUAL w_NOT_IN w_ENDING_WITH w_BETWEEN w_NOT_CONTAINING w_CONTAINING w_LIKE w_LESS_THAN_OR_EQUAL w_LESS_THAN w_NOT_LIKE p0 h0 n0 PN q0
  ·
    exact rm0_c7 l Z a0 hw ws w_EQUAL w_IS_TRUE w_IS_FALSE w_GREATER_THAN_OR_EQUAL w_IS_NULL w_IS_NOT_NULL w_STARTING_WITH w_NOT_BETWEEN w_GREATER_THAN w_IN w_NOT_EQUAL w_NOT_IN w_ENDING_WITH w_BETWEEN w_NOT_CONTAINING w_CONTAINING w_LIKE w_LESS_THAN_OR_EQUAL w_LESS_THAN w_NOT_LIKE p0 h0 n0 PN q0
  ·
    exact rm0_c8 l Z a0 hw ws w_EQUAL w_IS_TRUE w_IS_FALSE w_GREATER_THAN_OR_EQUAL w_IS_NULL w_IS_NOT_NULL w_STARTING_WITH w_NOT_BETWEEN w_GREATER_THAN w_IN w_NOT_EQUAL w_NOT_IN w_ENDING_WITH w_BETWEEN w_NOT_CONTAINING w_CONTAINING w_LIKE w_LESS_THAN_OR_EQUAL w_LESS_THAN w_NOT_LIKE p0 h0 n0 PN q0
  ·
    exact rm0_c9 l Z a0 hw ws w_EQUAL w_IS_TRUE w_IS_FALSE w_GREATER_THAN_OR_EQUAL w_IS_NULL w_IS_NOT_NULL w_STARTING_WITH w_NOT_BETWEEN w_GREATER_THAN w_IN w_NOT_EQUAL w_NOT_IN w_ENDING_WITH w_BETWEEN w_NOT_CONTAINING w_CONTAINING w_LIKE w_LESS_THAN_OR_EQUAL w_LESS_THAN w_NOT_LIKE p0 h0 n0 PN q0
  ·
    exact rm0_c10 l Z a0 hw ws w_EQUAL w_IS_TRUE w_IS_FALSE w_GREATER_THAN_OR_EQUAL w_IS_NULL w_IS_NOT_NULL w_STARTING_WITH w_NOT_BETWEEN w_GREATER_THAN w_IN w_NOT_EQUAL w_NOT_IN w_ENDING_WITH w_BETWEEN w_NOT_CONTAINING w_CONTAINING w_LIKE w_LESS_THAN_OR_EQUAL w_LESS_THAN w_NOT_LIKE p0 h0 n0 PN q0
  ·
    exact rm0_c11 l Z a0 hw ws w_EQUAL w_IS_TRUE w_IS_FALSE w_GREATER_THAN_OR_EQUAL w_IS_NULL w_IS_NOT_NULL w_STARTING_WITH w_NOT_BETWEEN w_GREATER_THAN w_IN w_NOT_EQUAL w_NOT_IN w_ENDING_WITH w_BETWEEN w_NOT_CONTAINING w_CONTAINING w_LIKE w_LESS_THAN_OR_EQUAL w_LESS_THAN w_NOT_LIKE p0 h0 n0 PN q0
  ·
    exact rm0_c12 l Z a0 hw ws w_EQUAL w_IS_TRUE w_IS_FALSE w_GREATER_THAN_OR_EQUAL w_IS_NULL w_IS_NOT_NULL w_STARTING_WITH w_NOT_BETWEEN w_GREATER_THAN w_IN w_NOT_EQUAL w_NOT_IN w_ENDING_WITH w_BETWEEN w_NOT_CONTAINING w_CONTAINING w_LIKE w_LESS_THAN_OR_EQUAL w_LESS_THAN w_NOT_LIKE p0 h0 n0 PN q0
  ·
    exact rm0_c13 l Z a0 hw ws w_EQUAL w_IS_TRUE w_IS_FALSE w_GREATER_THAN_OR_EQUAL w_IS_NULL w_IS_NOT_NULL w_STARTING_WITH w_NOT_BETWEEN w_GREATER_THAN w_IN w_NOT_EQUAL w_NOT_IN w_ENDING_WITH w_BETWEEN w_NOT_CONTAINING w_CONTAINING w_LIKE w_LESS_THAN_OR_EQUAL w_LESS_THAN w_NOT_LIKE p0 h0 n0 PN q0
  ·
    exact rm0_c14 l Z a0 hw ws w_EQUAL w_IS_TRUE w_IS_FALSE w_GREATER_THAN_OR_EQUAL w_IS_NULL w_IS_NOT_NULL w_STARTING_WITH w_NOT_BETWEEN w_GREATER_THAN w_IN w_NOT_EQUAL w_NOT_IN w_ENDING_WITH w_BETWEEN w_NOT_CONTAINING w_CONTAINING w_LIKE w_LESS_THAN_OR_EQUAL w_LESS_THAN w_NOT_LIKE p0 h0 n0 PN q0
  ·
    exact rm0_c15 l Z a0 hw ws w_EQUAL w_IS_TRUE w_IS_FALSE w_GREATER_THAN_OR_EQUAL w_IS_NULL w_IS_NOT_NULL w_STARTING_WITH w_NOT_BETWEEN w_GREATER_THAN w_IN w_NOT_EQUAL w_NOT_IN w_ENDING_WITH w_BETWEEN w_NOT_CONTAINING w_CONTAINING w_LIKE w_LESS_THAN_OR_EQUAL w_LESS_THAN w_NOT_LIKE p0 h0 n0 PN q0
  ·
    exact rm0_c16 l Z a0 hw ws w_EQUAL w_IS_TRUE w_IS_FALSE w_GREATER_THAN_OR_EQUAL w_IS_NULL w_IS_NOT_NULL w_STARTING_WITH w_NOT_BETWEEN w_GREATER_THAN w_IN w_NOT_EQUAL w_NOT_IN w_ENDING_WITH w_BETWEEN w_NOT_CONTAINING w_CONTAINING w_LIKE w_LESS_THAN_OR_EQUAL w_LESS_THAN w_NOT_LIKE p0 h0 n0 PN q0
  ·
    exact rm0_c17 l Z a0 hw ws w_EQUAL w_IS_TRUE w_IS_FALSE w_GREATER_THAN_OR_EQUAL w_IS_NULL w_IS_NOT_NULL w_STARTING_WITH w_NOT_BETWEEN w_GREATER_THAN w_IN w_NOT_EQUAL w_NOT_IN w_ENDING_WITH w_BETWEEN w_NOT_CONTAINING w_CONTAINING w_LIKE w_LESS_THAN_OR_EQUAL w_LESS_THAN w_NOT_LIKE p0 h0 n0 PN q0
  ·
    exact rm0_c18 l Z a0 hw ws w_EQUAL w_IS_TRUE w_IS_FALSE w_GREATER_THAN_OR_EQUAL w_IS_NULL w_IS_NOT_NULL w_STARTING_WITH w_NOT_BETWEEN w_GREATER_THAN w_IN w_NOT_EQUAL w_NOT_IN w_ENDING_WITH w_BETWEEN w_NOT_CONTAINING w_CONTAINING w_LIKE w_LESS_THAN_OR_EQUAL w_LESS_THAN w_NOT_LIKE p0 h0 n0 PN q0
  ·
    exact rm0_c19 l Z a0 hw ws w_EQUAL w_IS_TRUE w_IS_FALSE w_GREATER_THAN_OR_EQUAL w_IS_NULL w_IS_NOT_NULL w_STARTING_WITH w_NOT_BETWEEN w_GREATER_THAN w_IN w_NOT_EQUAL w_NOT_IN w_ENDING_WITH w_BETWEEN w_NOT_CONTAINING w_CONTAINING w_LIKE w_LESS_THAN_OR_EQUAL w_LESS_THAN w_NOT_LIKE p0 h0 n0 PN q0
set_option maxRecDepth 65536 in
set_option maxHeartbeats 40000000 in
theorem comes_1 {Post : Tables → Env → Array Value → State → Outcome → State → Prop} (hpost : ∀ tb e args s v u, (limb_1_1.after args s (.returned v) u = true ∧ limb_1_2.after args s (.returned v) u = true ∧ True) → FrameEnd s (.returned v) u (Jvm.fieldLocs frame_1_writes args s ++ Jvm.arrayLocs frame_1_arrays args s ++ Jvm.staticLocs frame_1_statics s) 0 0 → Post tb e args s (.returned v) u) :
    ArmFor flags0 classFile x code maxLocals ret World_1 tables_1 room_1 Calls_1 rest_1 Pre_1 Post := by
  intro l hfl _ _ p e ha hc hk s m args below hf hA hF happ hP
  obtain ⟨hcalls, hrest, hpre⟩ := hP
  obtain ⟨-, -, -, hnamed, -, -, -, hat⟩ := (Spec.applies_iff hf).mp happ
  obtain ⟨hg, hn⟩ := and_e (Cond.before_iff.mp (show (Jvm.Cond.and given_1 narrow_1).before args s = true from hpre))
  obtain ⟨hgl, hgr⟩ := and_e hg
  obtain ⟨v0, rfl⟩ : ∃ v0 : Value, args = #[v0] := by
    have hs : args.size = 1 := by simpa [Cond.value, given_1] using hgl
    obtain ⟨L⟩ := args
    match L, hs with
    | [v0], _ => exact ⟨v0, rfl⟩
  have hw := fun d (hd : d ∈ tables_1) => atoms_spec (ws := Jvm.Cond.code x code maxLocals ret :: tables_1) hat d (List.mem_cons_of_mem _ hd)
  have hfit : Fit s := fun {y c} hc i hi => by
    obtain ⟨ha, rfl⟩ := Array.getElem?_eq_some_iff.mp hc
    have q := List.all_eq_true.mp ((Array.all_eq_true_iff_forall_mem.mp hF) _ (Array.getElem_mem ha)) i (List.mem_range.mpr hi)
    simpa [Array.getElem?_eq_getElem hi] using q
  obtain ⟨p0, ei0⟩ := is_v hgr
  obtain rfl : v0 = (.int p0) := Option.some.inj ei0
  obtain ⟨hnl, hnr⟩ := and_e hn
  obtain ⟨hnrl, hnrr⟩ := and_e hnr
  obtain ⟨hnrrl, hnrrr⟩ := and_e hnrr
  obtain ⟨hnrrrl, hnrrrr⟩ := and_e hnrrr
  obtain ⟨hnrrrrl, hnrrrrr⟩ := and_e hnrrrr
  obtain ⟨hnrrrrrl, hnrrrrrr⟩ := and_e hnrrrrr
  obtain ⟨hnrrrrrrl, hnrrrrrrr⟩ := and_e hnrrrrrr
  obtain ⟨hnrrrrrrrl, hnrrrrrrrr⟩ := and_e hnrrrrrrr
  obtain ⟨hnrrrrrrrrl, hnrrrrrrrrr⟩ := and_e hnrrrrrrrr
  obtain ⟨hnrrrrrrrrrl, hnrrrrrrrrrr⟩ := and_e hnrrrrrrrrr
  obtain ⟨hnrrrrrrrrrrl, hnrrrrrrrrrrr⟩ := and_e hnrrrrrrrrrr
  obtain ⟨hnrrrrrrrrrrrl, hnrrrrrrrrrrrr⟩ := and_e hnrrrrrrrrrrr
  obtain ⟨hnrrrrrrrrrrrrl, hnrrrrrrrrrrrrr⟩ := and_e hnrrrrrrrrrrrr
  obtain ⟨hnrrrrrrrrrrrrrl, hnrrrrrrrrrrrrrr⟩ := and_e hnrrrrrrrrrrrrr
  obtain ⟨hnrrrrrrrrrrrrrrl, hnrrrrrrrrrrrrrrr⟩ := and_e hnrrrrrrrrrrrrrr
  obtain ⟨hnrrrrrrrrrrrrrrrl, hnrrrrrrrrrrrrrrrr⟩ := and_e hnrrrrrrrrrrrrrrr
  obtain ⟨hnrrrrrrrrrrrrrrrrl, hnrrrrrrrrrrrrrrrrr⟩ := and_e hnrrrrrrrrrrrrrrrr
  obtain ⟨hnrrrrrrrrrrrrrrrrrl, hnrrrrrrrrrrrrrrrrrr⟩ := and_e hnrrrrrrrrrrrrrrrrr
  obtain ⟨hnrrrrrrrrrrrrrrrrrrl, hnrrrrrrrrrrrrrrrrrrr⟩ := and_e hnrrrrrrrrrrrrrrrrrr
  obtain ⟨hnrrrrrrrrrrrrrrrrrrrl, hnrrrrrrrrrrrrrrrrrrrr⟩ := and_e hnrrrrrrrrrrrrrrrrrrr
  obtain ⟨hnrrrrrrrrrrrrrrrrrrrrl, hnrrrrrrrrrrrrrrrrrrrrr⟩ := and_e hnrrrrrrrrrrrrrrrrrrrr
  obtain ⟨hnrrrrrrrrrrrrrrrrrrrrrl, hnrrrrrrrrrrrrrrrrrrrrrr⟩ := and_e hnrrrrrrrrrrrrrrrrrrrrr
  obtain ⟨hnrrrrrrrrrrrrrrrrrrrrrrl, hnrrrrrrrrrrrrrrrrrrrrrrr⟩ := and_e hnrrrrrrrrrrrrrrrrrrrrrr
  obtain ⟨hnrrrrrrrrrrrrrrrrrrrrrrrl, hnrrrrrrrrrrrrrrrrrrrrrrrr⟩ := and_e hnrrrrrrrrrrrrrrrrrrrrrrr
  obtain ⟨hnrrrrrrrrrrrrrrrrrrrrrrrrl, hnrrrrrrrrrrrrrrrrrrrrrrrrr⟩ := and_e hnrrrrrrrrrrrrrrrrrrrrrrrr
  obtain ⟨hnrrrrrrrrrrrrrrrrrrrrrrrrrl, hnrrrrrrrrrrrrrrrrrrrrrrrrrr⟩ := and_e hnrrrrrrrrrrrrrrrrrrrrrrrrr
  obtain ⟨hnrrrrrrrrrrrrrrrrrrrrrrrrrrl, hnrrrrrrrrrrrrrrrrrrrrrrrrrrr⟩ := and_e hnrrrrrrrrrrrrrrrrrrrrrrrrrr
  obtain ⟨hnrrrrrrrrrrrrrrrrrrrrrrrrrrrl, hnrrrrrrrrrrrrrrrrrrrrrrrrrrrr⟩ := and_e hnrrrrrrrrrrrrrrrrrrrrrrrrrrr
  obtain ⟨hnrrrrrrrrrrrrrrrrrrrrrrrrrrrrl, hnrrrrrrrrrrrrrrrrrrrrrrrrrrrrr⟩ := and_e hnrrrrrrrrrrrrrrrrrrrrrrrrrrrr
  obtain ⟨hnrrrrrrrrrrrrrrrrrrrrrrrrrrrrrl, hnrrrrrrrrrrrrrrrrrrrrrrrrrrrrrr⟩ := and_e hnrrrrrrrrrrrrrrrrrrrrrrrrrrrrr
  obtain ⟨hnrrrrrrrrrrrrrrrrrrrrrrrrrrrrrrl, hnrrrrrrrrrrrrrrrrrrrrrrrrrrrrrrr⟩ := and_e hnrrrrrrrrrrrrrrrrrrrrrrrrrrrrrr
  obtain ⟨hnrrrrrrrrrrrrrrrrrrrrrrrrrrrrrrrl, hnrrrrrrrrrrrrrrrrrrrrrrrrrrrrrrrr⟩ := and_e hnrrrrrrrrrrrrrrrrrrrrrrrrrrrrrrr
  obtain ⟨hnrrrrrrrrrrrrrrrrrrrrrrrrrrrrrrrrl, hnrrrrrrrrrrrrrrrrrrrrrrrrrrrrrrrrr⟩ := and_e hnrrrrrrrrrrrrrrrrrrrrrrrrrrrrrrrr
  obtain ⟨hnrrrrrrrrrrrrrrrrrrrrrrrrrrrrrrrrrl, hnrrrrrrrrrrrrrrrrrrrrrrrrrrrrrrrrrr⟩ := and_e hnrrrrrrrrrrrrrrrrrrrrrrrrrrrrrrrrr
  obtain ⟨hnrrrrrrrrrrrrrrrrrrrrrrrrrrrrrrrrrrl, hnrrrrrrrrrrrrrrrrrrrrrrrrrrrrrrrrrrr⟩ := and_e hnrrrrrrrrrrrrrrrrrrrrrrrrrrrrrrrrrr
  obtain ⟨hnrrrrrrrrrrrrrrrrrrrrrrrrrrrrrrrrrrrl, hnrrrrrrrrrrrrrrrrrrrrrrrrrrrrrrrrrrrr⟩ := and_e hnrrrrrrrrrrrrrrrrrrrrrrrrrrrrrrrrrrr
  obtain ⟨hnrrrrrrrrrrrrrrrrrrrrrrrrrrrrrrrrrrrrl, hnrrrrrrrrrrrrrrrrrrrrrrrrrrrrrrrrrrrrr⟩ := and_e hnrrrrrrrrrrrrrrrrrrrrrrrrrrrrrrrrrrrr
  obtain ⟨hnrrrrrrrrrrrrrrrrrrrrrrrrrrrrrrrrrrrrrl, hnrrrrrrrrrrrrrrrrrrrrrrrrrrrrrrrrrrrrrr⟩ := and_e hnrrrrrrrrrrrrrrrrrrrrrrrrrrrrrrrrrrrrr
  obtain ⟨hnrrrrrrrrrrrrrrrrrrrrrrrrrrrrrrrrrrrrrrl, hnrrrrrrrrrrrrrrrrrrrrrrrrrrrrrrrrrrrrrrr⟩ := and_e hnrrrrrrrrrrrrrrrrrrrrrrrrrrrrrrrrrrrrrr
  obtain ⟨hnrrrrrrrrrrrrrrrrrrrrrrrrrrrrrrrrrrrrrrrl, hnrrrrrrrrrrrrrrrrrrrrrrrrrrrrrrrrrrrrrrrr⟩ := and_e hnrrrrrrrrrrrrrrrrrrrrrrrrrrrrrrrrrrrrrrr
  obtain ⟨hnrrrrrrrrrrrrrrrrrrrrrrrrrrrrrrrrrrrrrrrrl, hnrrrrrrrrrrrrrrrrrrrrrrrrrrrrrrrrrrrrrrrrr⟩ := and_e hnrrrrrrrrrrrrrrrrrrrrrrrrrrrrrrrrrrrrrrrr
  obtain ⟨hnrrrrrrrrrrrrrrrrrrrrrrrrrrrrrrrrrrrrrrrrrl, hnrrrrrrrrrrrrrrrrrrrrrrrrrrrrrrrrrrrrrrrrrr⟩ := and_e hnrrrrrrrrrrrrrrrrrrrrrrrrrrrrrrrrrrrrrrrrr
  obtain ⟨hnrrrrrrrrrrrrrrrrrrrrrrrrrrrrrrrrrrrrrrrrrrl, hnrrrrrrrrrrrrrrrrrrrrrrrrrrrrrrrrrrrrrrrrrrr⟩ := and_e hnrrrrrrrrrrrrrrrrrrrrrrrrrrrrrrrrrrrrrrrrrr
  obtain ⟨hnrrrrrrrrrrrrrrrrrrrrrrrrrrrrrrrrrrrrrrrrrrrl, hnrrrrrrrrrrrrrrrrrrrrrrrrrrrrrrrrrrrrrrrrrrrr⟩ := and_e hnrrrrrrrrrrrrrrrrrrrrrrrrrrrrrrrrrrrrrrrrrrr
  obtain ⟨hnrrrrrrrrrrrrrrrrrrrrrrrrrrrrrrrrrrrrrrrrrrrrl, hnrrrrrrrrrrrrrrrrrrrrrrrrrrrrrrrrrrrrrrrrrrrrr⟩ := and_e hnrrrrrrrrrrrrrrrrrrrrrrrrrrrrrrrrrrrrrrrrrrrr
  obtain ⟨hnrrrrrrrrrrrrrrrrrrrrrrrrrrrrrrrrrrrrrrrrrrrrrl, hnrrrrrrrrrrrrrrrrrrrrrrrrrrrrrrrrrrrrrrrrrrrrrr⟩ := and_e hnrrrrrrrrrrrrrrrrrrrrrrrrrrrrrrrrrrrrrrrrrrrrr
  obtain ⟨hnrrrrrrrrrrrrrrrrrrrrrrrrrrrrrrrrrrrrrrrrrrrrrrl, hnrrrrrrrrrrrrrrrrrrrrrrrrrrrrrrrrrrrrrrrrrrrrrrr⟩ := and_e hnrrrrrrrrrrrrrrrrrrrrrrrrrrrrrrrrrrrrrrrrrrrrrr
  obtain ⟨hnrrrrrrrrrrrrrrrrrrrrrrrrrrrrrrrrrrrrrrrrrrrrrrrl, hnrrrrrrrrrrrrrrrrrrrrrrrrrrrrrrrrrrrrrrrrrrrrrrrr⟩ := and_e hnrrrrrrrrrrrrrrrrrrrrrrrrrrrrrrrrrrrrrrrrrrrrrrr
  obtain ⟨hnrrrrrrrrrrrrrrrrrrrrrrrrrrrrrrrrrrrrrrrrrrrrrrrrl, hnrrrrrrrrrrrrrrrrrrrrrrrrrrrrrrrrrrrrrrrrrrrrrrrrr⟩ := and_e hnrrrrrrrrrrrrrrrrrrrrrrrrrrrrrrrrrrrrrrrrrrrrrrrr
  obtain ⟨hnrrrrrrrrrrrrrrrrrrrrrrrrrrrrrrrrrrrrrrrrrrrrrrrrrl, hnrrrrrrrrrrrrrrrrrrrrrrrrrrrrrrrrrrrrrrrrrrrrrrrrrr⟩ := and_e hnrrrrrrrrrrrrrrrrrrrrrrrrrrrrrrrrrrrrrrrrrrrrrrrrr
  obtain ⟨hnrrrrrrrrrrrrrrrrrrrrrrrrrrrrrrrrrrrrrrrrrrrrrrrrrrl, hnrrrrrrrrrrrrrrrrrrrrrrrrrrrrrrrrrrrrrrrrrrrrrrrrrrr⟩ := and_e hnrrrrrrrrrrrrrrrrrrrrrrrrrrrrrrrrrrrrrrrrrrrrrrrrrr
  obtain ⟨hnrrrrrrrrrrrrrrrrrrrrrrrrrrrrrrrrrrrrrrrrrrrrrrrrrrrl, hnrrrrrrrrrrrrrrrrrrrrrrrrrrrrrrrrrrrrrrrrrrrrrrrrrrrr⟩ := and_e hnrrrrrrrrrrrrrrrrrrrrrrrrrrrrrrrrrrrrrrrrrrrrrrrrrrr
  obtain ⟨hnrrrrrrrrrrrrrrrrrrrrrrrrrrrrrrrrrrrrrrrrrrrrrrrrrrrrl, hnrrrrrrrrrrrrrrrrrrrrrrrrrrrrrrrrrrrrrrrrrrrrrrrrrrrrr⟩ := and_e hnrrrrrrrrrrrrrrrrrrrrrrrrrrrrrrrrrrrrrrrrrrrrrrrrrrrr
  obtain ⟨hnrrrrrrrrrrrrrrrrrrrrrrrrrrrrrrrrrrrrrrrrrrrrrrrrrrrrrl, hnrrrrrrrrrrrrrrrrrrrrrrrrrrrrrrrrrrrrrrrrrrrrrrrrrrrrrr⟩ := and_e hnrrrrrrrrrrrrrrrrrrrrrrrrrrrrrrrrrrrrrrrrrrrrrrrrrrrrr
  obtain ⟨hnrrrrrrrrrrrrrrrrrrrrrrrrrrrrrrrrrrrrrrrrrrrrrrrrrrrrrrl, hnrrrrrrrrrrrrrrrrrrrrrrrrrrrrrrrrrrrrrrrrrrrrrrrrrrrrrrr⟩ := and_e hnrrrrrrrrrrrrrrrrrrrrrrrrrrrrrrrrrrrrrrrrrrrrrrrrrrrrrr
  obtain ⟨hnrrrrrrrrrrrrrrrrrrrrrrrrrrrrrrrrrrrrrrrrrrrrrrrrrrrrrrrl, hnrrrrrrrrrrrrrrrrrrrrrrrrrrrrrrrrrrrrrrrrrrrrrrrrrrrrrrrr⟩ := and_e hnrrrrrrrrrrrrrrrrrrrrrrrrrrrrrrrrrrrrrrrrrrrrrrrrrrrrrrr
  obtain ⟨hnrrrrrrrrrrrrrrrrrrrrrrrrrrrrrrrrrrrrrrrrrrrrrrrrrrrrrrrrl, hnrrrrrrrrrrrrrrrrrrrrrrrrrrrrrrrrrrrrrrrrrrrrrrrrrrrrrrrrr⟩ := and_e hnrrrrrrrrrrrrrrrrrrrrrrrrrrrrrrrrrrrrrrrrrrrrrrrrrrrrrrrr
  obtain ⟨hnrrrrrrrrrrrrrrrrrrrrrrrrrrrrrrrrrrrrrrrrrrrrrrrrrrrrrrrrrl, hnrrrrrrrrrrrrrrrrrrrrrrrrrrrrrrrrrrrrrrrrrrrrrrrrrrrrrrrrrr⟩ := and_e hnrrrrrrrrrrrrrrrrrrrrrrrrrrrrrrrrrrrrrrrrrrrrrrrrrrrrrrrrr
  obtain ⟨hnrrrrrrrrrrrrrrrrrrrrrrrrrrrrrrrrrrrrrrrrrrrrrrrrrrrrrrrrrrl, hnrrrrrrrrrrrrrrrrrrrrrrrrrrrrrrrrrrrrrrrrrrrrrrrrrrrrrrrrrrr⟩ := and_e hnrrrrrrrrrrrrrrrrrrrrrrrrrrrrrrrrrrrrrrrrrrrrrrrrrrrrrrrrrr
  obtain ⟨hnrrrrrrrrrrrrrrrrrrrrrrrrrrrrrrrrrrrrrrrrrrrrrrrrrrrrrrrrrrrl, hnrrrrrrrrrrrrrrrrrrrrrrrrrrrrrrrrrrrrrrrrrrrrrrrrrrrrrrrrrrrr⟩ := and_e hnrrrrrrrrrrrrrrrrrrrrrrrrrrrrrrrrrrrrrrrrrrrrrrrrrrrrrrrrrrr
  obtain ⟨hnrrrrrrrrrrrrrrrrrrrrrrrrrrrrrrrrrrrrrrrrrrrrrrrrrrrrrrrrrrrrl, hnrrrrrrrrrrrrrrrrrrrrrrrrrrrrrrrrrrrrrrrrrrrrrrrrrrrrrrrrrrrrr⟩ := and_e hnrrrrrrrrrrrrrrrrrrrrrrrrrrrrrrrrrrrrrrrrrrrrrrrrrrrrrrrrrrrr
  obtain ⟨hnrrrrrrrrrrrrrrrrrrrrrrrrrrrrrrrrrrrrrrrrrrrrrrrrrrrrrrrrrrrrrl, hnrrrrrrrrrrrrrrrrrrrrrrrrrrrrrrrrrrrrrrrrrrrrrrrrrrrrrrrrrrrrrr⟩ := and_e hnrrrrrrrrrrrrrrrrrrrrrrrrrrrrrrrrrrrrrrrrrrrrrrrrrrrrrrrrrrrrr
  obtain ⟨hnrrrrrrrrrrrrrrrrrrrrrrrrrrrrrrrrrrrrrrrrrrrrrrrrrrrrrrrrrrrrrrl, hnrrrrrrrrrrrrrrrrrrrrrrrrrrrrrrrrrrrrrrrrrrrrrrrrrrrrrrrrrrrrrrr⟩ := and_e hnrrrrrrrrrrrrrrrrrrrrrrrrrrrrrrrrrrrrrrrrrrrrrrrrrrrrrrrrrrrrrr
  obtain ⟨hnrrrrrrrrrrrrrrrrrrrrrrrrrrrrrrrrrrrrrrrrrrrrrrrrrrrrrrrrrrrrrrrl, hnrrrrrrrrrrrrrrrrrrrrrrrrrrrrrrrrrrrrrrrrrrrrrrrrrrrrrrrrrrrrrrrr⟩ := and_e hnrrrrrrrrrrrrrrrrrrrrrrrrrrrrrrrrrrrrrrrrrrrrrrrrrrrrrrrrrrrrrrr
  obtain ⟨hnrrrrrrrrrrrrrrrrrrrrrrrrrrrrrrrrrrrrrrrrrrrrrrrrrrrrrrrrrrrrrrrrl, hnrrrrrrrrrrrrrrrrrrrrrrrrrrrrrrrrrrrrrrrrrrrrrrrrrrrrrrrrrrrrrrrrr⟩ := and_e hnrrrrrrrrrrrrrrrrrrrrrrrrrrrrrrrrrrrrrrrrrrrrrrrrrrrrrrrrrrrrrrrr
  obtain ⟨hnrrrrrrrrrrrrrrrrrrrrrrrrrrrrrrrrrrrrrrrrrrrrrrrrrrrrrrrrrrrrrrrrrl, hnrrrrrrrrrrrrrrrrrrrrrrrrrrrrrrrrrrrrrrrrrrrrrrrrrrrrrrrrrrrrrrrrrr⟩ := and_e hnrrrrrrrrrrrrrrrrrrrrrrrrrrrrrrrrrrrrrrrrrrrrrrrrrrrrrrrrrrrrrrrrr
  obtain ⟨hnrrrrrrrrrrrrrrrrrrrrrrrrrrrrrrrrrrrrrrrrrrrrrrrrrrrrrrrrrrrrrrrrrrl, hnrrrrrrrrrrrrrrrrrrrrrrrrrrrrrrrrrrrrrrrrrrrrrrrrrrrrrrrrrrrrrrrrrrr⟩ := and_e hnrrrrrrrrrrrrrrrrrrrrrrrrrrrrrrrrrrrrrrrrrrrrrrrrrrrrrrrrrrrrrrrrrr
  obtain ⟨hnrrrrrrrrrrrrrrrrrrrrrrrrrrrrrrrrrrrrrrrrrrrrrrrrrrrrrrrrrrrrrrrrrrrl, hnrrrrrrrrrrrrrrrrrrrrrrrrrrrrrrrrrrrrrrrrrrrrrrrrrrrrrrrrrrrrrrrrrrrr⟩ := and_e hnrrrrrrrrrrrrrrrrrrrrrrrrrrrrrrrrrrrrrrrrrrrrrrrrrrrrrrrrrrrrrrrrrrr
  obtain ⟨hnrrrrrrrrrrrrrrrrrrrrrrrrrrrrrrrrrrrrrrrrrrrrrrrrrrrrrrrrrrrrrrrrrrrrl, hnrrrrrrrrrrrrrrrrrrrrrrrrrrrrrrrrrrrrrrrrrrrrrrrrrrrrrrrrrrrrrrrrrrrrr⟩ := and_e hnrrrrrrrrrrrrrrrrrrrrrrrrrrrrrrrrrrrrrrrrrrrrrrrrrrrrrrrrrrrrrrrrrrrr
  obtain ⟨hnrrrrrrrrrrrrrrrrrrrrrrrrrrrrrrrrrrrrrrrrrrrrrrrrrrrrrrrrrrrrrrrrrrrrrl, hnrrrrrrrrrrrrrrrrrrrrrrrrrrrrrrrrrrrrrrrrrrrrrrrrrrrrrrrrrrrrrrrrrrrrrr⟩ := and_e hnrrrrrrrrrrrrrrrrrrrrrrrrrrrrrrrrrrrrrrrrrrrrrrrrrrrrrrrrrrrrrrrrrrrrr
  obtain ⟨hnrrrrrrrrrrrrrrrrrrrrrrrrrrrrrrrrrrrrrrrrrrrrrrrrrrrrrrrrrrrrrrrrrrrrrrl, hnrrrrrrrrrrrrrrrrrrrrrrrrrrrrrrrrrrrrrrrrrrrrrrrrrrrrrrrrrrrrrrrrrrrrrrr⟩ := and_e hnrrrrrrrrrrrrrrrrrrrrrrrrrrrrrrrrrrrrrrrrrrrrrrrrrrrrrrrrrrrrrrrrrrrrrr
  obtain ⟨hnrrrrrrrrrrrrrrrrrrrrrrrrrrrrrrrrrrrrrrrrrrrrrrrrrrrrrrrrrrrrrrrrrrrrrrrl, hnrrrrrrrrrrrrrrrrrrrrrrrrrrrrrrrrrrrrrrrrrrrrrrrrrrrrrrrrrrrrrrrrrrrrrrrr⟩ := and_e hnrrrrrrrrrrrrrrrrrrrrrrrrrrrrrrrrrrrrrrrrrrrrrrrrrrrrrrrrrrrrrrrrrrrrrrr
  obtain ⟨hnrrrrrrrrrrrrrrrrrrrrrrrrrrrrrrrrrrrrrrrrrrrrrrrrrrrrrrrrrrrrrrrrrrrrrrrrl, hnrrrrrrrrrrrrrrrrrrrrrrrrrrrrrrrrrrrrrrrrrrrrrrrrrrrrrrrrrrrrrrrrrrrrrrrrr⟩ := and_e hnrrrrrrrrrrrrrrrrrrrrrrrrrrrrrrrrrrrrrrrrrrrrrrrrrrrrrrrrrrrrrrrrrrrrrrrr
  obtain ⟨hnrrrrrrrrrrrrrrrrrrrrrrrrrrrrrrrrrrrrrrrrrrrrrrrrrrrrrrrrrrrrrrrrrrrrrrrrrl, hnrrrrrrrrrrrrrrrrrrrrrrrrrrrrrrrrrrrrrrrrrrrrrrrrrrrrrrrrrrrrrrrrrrrrrrrrrr⟩ := and_e hnrrrrrrrrrrrrrrrrrrrrrrrrrrrrrrrrrrrrrrrrrrrrrrrrrrrrrrrrrrrrrrrrrrrrrrrrr
  obtain ⟨hnrrrrrrrrrrrrrrrrrrrrrrrrrrrrrrrrrrrrrrrrrrrrrrrrrrrrrrrrrrrrrrrrrrrrrrrrrrl, hnrrrrrrrrrrrrrrrrrrrrrrrrrrrrrrrrrrrrrrrrrrrrrrrrrrrrrrrrrrrrrrrrrrrrrrrrrrr⟩ := and_e hnrrrrrrrrrrrrrrrrrrrrrrrrrrrrrrrrrrrrrrrrrrrrrrrrrrrrrrrrrrrrrrrrrrrrrrrrrr
  obtain ⟨hnrrrrrrrrrrrrrrrrrrrrrrrrrrrrrrrrrrrrrrrrrrrrrrrrrrrrrrrrrrrrrrrrrrrrrrrrrrrl, hnrrrrrrrrrrrrrrrrrrrrrrrrrrrrrrrrrrrrrrrrrrrrrrrrrrrrrrrrrrrrrrrrrrrrrrrrrrrr⟩ := and_e hnrrrrrrrrrrrrrrrrrrrrrrrrrrrrrrrrrrrrrrrrrrrrrrrrrrrrrrrrrrrrrrrrrrrrrrrrrrr
  obtain ⟨hnrrrrrrrrrrrrrrrrrrrrrrrrrrrrrrrrrrrrrrrrrrrrrrrrrrrrrrrrrrrrrrrrrrrrrrrrrrrrl, hnrrrrrrrrrrrrrrrrrrrrrrrrrrrrrrrrrrrrrrrrrrrrrrrrrrrrrrrrrrrrrrrrrrrrrrrrrrrrr⟩ := and_e hnrrrrrrrrrrrrrrrrrrrrrrrrrrrrrrrrrrrrrrrrrrrrrrrrrrrrrrrrrrrrrrrrrrrrrrrrrrrr
  obtain ⟨hnrrrrrrrrrrrrrrrrrrrrrrrrrrrrrrrrrrrrrrrrrrrrrrrrrrrrrrrrrrrrrrrrrrrrrrrrrrrrrl, hnrrrrrrrrrrrrrrrrrrrrrrrrrrrrrrrrrrrrrrrrrrrrrrrrrrrrrrrrrrrrrrrrrrrrrrrrrrrrrr⟩ := and_e hnrrrrrrrrrrrrrrrrrrrrrrrrrrrrrrrrrrrrrrrrrrrrrrrrrrrrrrrrrrrrrrrrrrrrrrrrrrrrr
  obtain ⟨hnrrrrrrrrrrrrrrrrrrrrrrrrrrrrrrrrrrrrrrrrrrrrrrrrrrrrrrrrrrrrrrrrrrrrrrrrrrrrrrl, hnrrrrrrrrrrrrrrrrrrrrrrrrrrrrrrrrrrrrrrrrrrrrrrrrrrrrrrrrrrrrrrrrrrrrrrrrrrrrrrr⟩ := and_e hnrrrrrrrrrrrrrrrrrrrrrrrrrrrrrrrrrrrrrrrrrrrrrrrrrrrrrrrrrrrrrrrrrrrrrrrrrrrrrr
  obtain ⟨w_EQUAL, ev_EQUAL⟩ := exa_v hnl
  have S_EQUAL := Sta.start ev_EQUAL (Or.inr ⟨(hw _ (List.mem_of_getElem? (i := 6) rfl)), (hw _ (List.mem_of_getElem? (i := 7) rfl))⟩)
  have E_EQUAL := Exa.start ev_EQUAL hnl
  obtain ⟨w_IS_TRUE, ev_IS_TRUE⟩ := exa_v hnrl
  have S_IS_TRUE := Sta.start ev_IS_TRUE (Or.inr ⟨(hw _ (List.mem_of_getElem? (i := 6) rfl)), (hw _ (List.mem_of_getElem? (i := 14) rfl))⟩)
  have E_IS_TRUE := Exa.start ev_IS_TRUE hnrl
  obtain ⟨w_IS_FALSE, ev_IS_FALSE⟩ := exa_v hnrrrrl
  have S_IS_FALSE := Sta.start ev_IS_FALSE (Or.inr ⟨(hw _ (List.mem_of_getElem? (i := 6) rfl)), (hw _ (List.mem_of_getElem? (i := 16) rfl))⟩)
  have E_IS_FALSE := Exa.start ev_IS_FALSE hnrrrrl
  obtain ⟨w_GREATER_THAN_OR_EQUAL, ev_GREATER_THAN_OR_EQUAL⟩ := exa_v hnrrrrrrl
  have S_GREATER_THAN_OR_EQUAL := Sta.start ev_GREATER_THAN_OR_EQUAL (Or.inr ⟨(hw _ (List.mem_of_getElem? (i := 6) rfl)), (hw _ (List.mem_of_getElem? (i := 18) rfl))⟩)
  have E_GREATER_THAN_OR_EQUAL := Exa.start ev_GREATER_THAN_OR_EQUAL hnrrrrrrl
  obtain ⟨w_IS_NULL, ev_IS_NULL⟩ := exa_v hnrrrrrrrrl
  have S_IS_NULL := Sta.start ev_IS_NULL (Or.inr ⟨(hw _ (List.mem_of_getElem? (i := 6) rfl)), (hw _ (List.mem_of_getElem? (i := 20) rfl))⟩)
  have E_IS_NULL := Exa.start ev_IS_NULL hnrrrrrrrrl
  obtain ⟨w_IS_NOT_NULL, ev_IS_NOT_NULL⟩ := exa_v hnrrrrrrrrrrl
  have S_IS_NOT_NULL := Sta.start ev_IS_NOT_NULL (Or.inr ⟨(hw _ (List.mem_of_getElem? (i := 6) rfl)), (hw _ (List.mem_of_getElem? (i := 22) rfl))⟩)
  have E_IS_NOT_NULL := Exa.start ev_IS_NOT_NULL hnrrrrrrrrrrl
  obtain ⟨w_STARTING_WITH, ev_STARTING_WITH⟩ := exa_v hnrrrrrrrrrrrrl
  have S_STARTING_WITH := Sta.start ev_STARTING_WITH (Or.inr ⟨(hw _ (List.mem_of_getElem? (i := 6) rfl)), (hw _ (List.mem_of_getElem? (i := 24) rfl))⟩)
  have E_STARTING_WITH := Exa.start ev_STARTING_WITH hnrrrrrrrrrrrrl
  obtain ⟨w_NOT_BETWEEN, ev_NOT_BETWEEN⟩ := exa_v hnrrrrrrrrrrrrrrl
  have S_NOT_BETWEEN := Sta.start ev_NOT_BETWEEN (Or.inr ⟨(hw _ (List.mem_of_getElem? (i := 6) rfl)), (hw _ (List.mem_of_getElem? (i := 26) rfl))⟩)
  have E_NOT_BETWEEN := Exa.start ev_NOT_BETWEEN hnrrrrrrrrrrrrrrl
  obtain ⟨w_GREATER_THAN, ev_GREATER_THAN⟩ := exa_v hnrrrrrrrrrrrrrrrrl
  have S_GREATER_THAN := Sta.start ev_GREATER_THAN (Or.inr ⟨(hw _ (List.mem_of_getElem? (i := 6) rfl)), (hw _ (List.mem_of_getElem? (i := 28) rfl))⟩)
  have E_GREATER_THAN := Exa.start ev_GREATER_THAN hnrrrrrrrrrrrrrrrrl
  obtain ⟨w_IN, ev_IN⟩ := exa_v hnrrrrrrrrrrrrrrrrrrl
  have S_IN := Sta.start ev_IN (Or.inr ⟨(hw _ (List.mem_of_getElem? (i := 6) rfl)), (hw _ (List.mem_of_getElem? (i := 30) rfl))⟩)
  have E_IN := Exa.start ev_IN hnrrrrrrrrrrrrrrrrrrl
  obtain ⟨w_NOT_EQUAL, ev_NOT_EQUAL⟩ := exa_v hnrrrrrrrrrrrrrrrrrrrrl
  have S_NOT_EQUAL := Sta.start ev_NOT_EQUAL (Or.inr ⟨(hw _ (List.mem_of_getElem? (i := 6) rfl)), (hw _ (List.mem_of_getElem? (i := 32) rfl))⟩)
  have E_NOT_EQUAL := Exa.start ev_NOT_EQUAL hnrrrrrrrrrrrrrrrrrrrrl
  obtain ⟨w_NOT_IN, ev_NOT_IN⟩ := exa_v hnrrrrrrrrrrrrrrrrrrrrrrrrl
  have S_NOT_IN := Sta.start ev_NOT_IN (Or.inr ⟨(hw _ (List.mem_of_getElem? (i := 6) rfl)), (hw _ (List.mem_of_getElem? (i := 55) rfl))⟩)
  have E_NOT_IN := Exa.start ev_NOT_IN hnrrrrrrrrrrrrrrrrrrrrrrrrl
  obtain ⟨w_ENDING_WITH, ev_ENDING_WITH⟩ := exa_v hnrrrrrrrrrrrrrrrrrrrrrrrrrrl
  have S_ENDING_WITH := Sta.start ev_ENDING_WITH (Or.inr ⟨(hw _ (List.mem_of_getElem? (i := 6) rfl)), (hw _ (List.mem_of_getElem? (i := 57) rfl))⟩)
  have E_ENDING_WITH := Exa.start ev_ENDING_WITH hnrrrrrrrrrrrrrrrrrrrrrrrrrrl
  obtain ⟨w_BETWEEN, ev_BETWEEN⟩ := exa_v hnrrrrrrrrrrrrrrrrrrrrrrrrrrrrl
  have S_BETWEEN := Sta.start ev_BETWEEN (Or.inr ⟨(hw _ (List.mem_of_getElem? (i := 6) rfl)), (hw _ (List.mem_of_getElem? (i := 59) rfl))⟩)
  have E_BETWEEN := Exa.start ev_BETWEEN hnrrrrrrrrrrrrrrrrrrrrrrrrrrrrl
  obtain ⟨w_NOT_CONTAINING, ev_NOT_CONTAINING⟩ := exa_v hnrrrrrrrrrrrrrrrrrrrrrrrrrrrrrrl
  have S_NOT_CONTAINING := Sta.start ev_NOT_CONTAINING (Or.inr ⟨(hw _ (List.mem_of_getElem? (i := 6) rfl)), (hw _ (List.mem_of_getElem? (i := 61) rfl))⟩)
  have E_NOT_CONTAINING := Exa.start ev_NOT_CONTAINING hnrrrrrrrrrrrrrrrrrrrrrrrrrrrrrrl
  obtain ⟨w_CONTAINING, ev_CONTAINING⟩ := exa_v hnrrrrrrrrrrrrrrrrrrrrrrrrrrrrrrrrl
  have S_CONTAINING := Sta.start ev_CONTAINING (Or.inr ⟨(hw _ (List.mem_of_getElem? (i := 6) rfl)), (hw _ (List.mem_of_getElem? (i := 63) rfl))⟩)
  have E_CONTAINING := Exa.start ev_CONTAINING hnrrrrrrrrrrrrrrrrrrrrrrrrrrrrrrrrl
  obtain ⟨w_LIKE, ev_LIKE⟩ := exa_v hnrrrrrrrrrrrrrrrrrrrrrrrrrrrrrrrrrrl
  have S_LIKE := Sta.start ev_LIKE (Or.inr ⟨(hw _ (List.mem_of_getElem? (i := 6) rfl)), (hw _ (List.mem_of_getElem? (i := 65) rfl))⟩)
  have E_LIKE := Exa.start ev_LIKE hnrrrrrrrrrrrrrrrrrrrrrrrrrrrrrrrrrrl
  obtain ⟨w_LESS_THAN_OR_EQUAL, ev_LESS_THAN_OR_EQUAL⟩ := exa_v hnrrrrrrrrrrrrrrrrrrrrrrrrrrrrrrrrrrrrl
  have S_LESS_THAN_OR_EQUAL := Sta.start ev_LESS_THAN_OR_EQUAL (Or.inr ⟨(hw _ (List.mem_of_getElem? (i := 6) rfl)), (hw _ (List.mem_of_getElem? (i := 67) rfl))⟩)
  have E_LESS_THAN_OR_EQUAL := Exa.start ev_LESS_THAN_OR_EQUAL hnrrrrrrrrrrrrrrrrrrrrrrrrrrrrrrrrrrrrl
  obtain ⟨w_LESS_THAN, ev_LESS_THAN⟩ := exa_v hnrrrrrrrrrrrrrrrrrrrrrrrrrrrrrrrrrrrrrrl
  have S_LESS_THAN := Sta.start ev_LESS_THAN (Or.inr ⟨(hw _ (List.mem_of_getElem? (i := 6) rfl)), (hw _ (List.mem_of_getElem? (i := 69) rfl))⟩)
  have E_LESS_THAN := Exa.start ev_LESS_THAN hnrrrrrrrrrrrrrrrrrrrrrrrrrrrrrrrrrrrrrrl
  obtain ⟨w_NOT_LIKE, ev_NOT_LIKE⟩ := exa_v hnrrrrrrrrrrrrrrrrrrrrrrrrrrrrrrrrrrrrrrrrl
  have S_NOT_LIKE := Sta.start ev_NOT_LIKE (Or.inr ⟨(hw _ (List.mem_of_getElem? (i := 6) rfl)), (hw _ (List.mem_of_getElem? (i := 72) rfl))⟩)
  have E_NOT_LIKE := Exa.start ev_NOT_LIKE hnrrrrrrrrrrrrrrrrrrrrrrrrrrrrrrrrrrrrrrrrl
  have F_EQUAL_ordinal := own_fld ev_EQUAL hnrrl
  have F_IS_TRUE_ordinal := own_fld ev_IS_TRUE hnrrrl
  have F_IS_FALSE_ordinal := own_fld ev_IS_FALSE hnrrrrrl
  have F_GREATER_THAN_OR_EQUAL_ordinal := own_fld ev_GREATER_THAN_OR_EQUAL hnrrrrrrrl
  have F_IS_NULL_ordinal := own_fld ev_IS_NULL hnrrrrrrrrrl
  have F_IS_NOT_NULL_ordinal := own_fld ev_IS_NOT_NULL hnrrrrrrrrrrrl
  have F_STARTING_WITH_ordinal := own_fld ev_STARTING_WITH hnrrrrrrrrrrrrrl
  have F_NOT_BETWEEN_ordinal := own_fld ev_NOT_BETWEEN hnrrrrrrrrrrrrrrrl
  have F_GREATER_THAN_ordinal := own_fld ev_GREATER_THAN hnrrrrrrrrrrrrrrrrrl
  have F_IN_ordinal := own_fld ev_IN hnrrrrrrrrrrrrrrrrrrrl
  have F_NOT_EQUAL_ordinal := own_fld ev_NOT_EQUAL hnrrrrrrrrrrrrrrrrrrrrrl
  have F_IS_FALSE_arity := own_fld ev_IS_FALSE hnrrrrrrrrrrrrrrrrrrrrrrl
  have F_IS_FALSE_text := own_fld ev_IS_FALSE hnrrrrrrrrrrrrrrrrrrrrrrrl
  have F_NOT_IN_ordinal := own_fld ev_NOT_IN hnrrrrrrrrrrrrrrrrrrrrrrrrrl
  have F_ENDING_WITH_ordinal := own_fld ev_ENDING_WITH hnrrrrrrrrrrrrrrrrrrrrrrrrrrrl
  have F_BETWEEN_ordinal := own_fld ev_BETWEEN hnrrrrrrrrrrrrrrrrrrrrrrrrrrrrrl
  have F_NOT_CONTAINING_ordinal := own_fld ev_NOT_CONTAINING hnrrrrrrrrrrrrrrrrrrrrrrrrrrrrrrrl
  have F_CONTAINING_ordinal := own_fld ev_CONTAINING hnrrrrrrrrrrrrrrrrrrrrrrrrrrrrrrrrrl
  have F_LIKE_ordinal := own_fld ev_LIKE hnrrrrrrrrrrrrrrrrrrrrrrrrrrrrrrrrrrrl
  have F_LESS_THAN_OR_EQUAL_ordinal := own_fld ev_LESS_THAN_OR_EQUAL hnrrrrrrrrrrrrrrrrrrrrrrrrrrrrrrrrrrrrrl
  have F_LESS_THAN_ordinal := own_fld ev_LESS_THAN hnrrrrrrrrrrrrrrrrrrrrrrrrrrrrrrrrrrrrrrrl
  have F_NOT_LIKE_ordinal := own_fld ev_NOT_LIKE hnrrrrrrrrrrrrrrrrrrrrrrrrrrrrrrrrrrrrrrrrrl
  have F_IS_TRUE_arity := own_fld ev_IS_TRUE hnrrrrrrrrrrrrrrrrrrrrrrrrrrrrrrrrrrrrrrrrrrl
  have F_IS_TRUE_text := own_fld ev_IS_TRUE hnrrrrrrrrrrrrrrrrrrrrrrrrrrrrrrrrrrrrrrrrrrrl
  have F_EQUAL_arity := own_fld ev_EQUAL hnrrrrrrrrrrrrrrrrrrrrrrrrrrrrrrrrrrrrrrrrrrrrl
  have F_EQUAL_text := own_fld ev_EQUAL hnrrrrrrrrrrrrrrrrrrrrrrrrrrrrrrrrrrrrrrrrrrrrrl
  have F_GREATER_THAN_OR_EQUAL_arity := own_fld ev_GREATER_THAN_OR_EQUAL hnrrrrrrrrrrrrrrrrrrrrrrrrrrrrrrrrrrrrrrrrrrrrrrl
  have F_GREATER_THAN_OR_EQUAL_text := own_fld ev_GREATER_THAN_OR_EQUAL hnrrrrrrrrrrrrrrrrrrrrrrrrrrrrrrrrrrrrrrrrrrrrrrrl
  have F_IS_NULL_arity := own_fld ev_IS_NULL hnrrrrrrrrrrrrrrrrrrrrrrrrrrrrrrrrrrrrrrrrrrrrrrrrl
  have F_IS_NULL_text := own_fld ev_IS_NULL hnrrrrrrrrrrrrrrrrrrrrrrrrrrrrrrrrrrrrrrrrrrrrrrrrrl
  have F_IS_NOT_NULL_arity := own_fld ev_IS_NOT_NULL hnrrrrrrrrrrrrrrrrrrrrrrrrrrrrrrrrrrrrrrrrrrrrrrrrrrl
  have F_IS_NOT_NULL_text := own_fld ev_IS_NOT_NULL hnrrrrrrrrrrrrrrrrrrrrrrrrrrrrrrrrrrrrrrrrrrrrrrrrrrrl
  have F_STARTING_WITH_arity := own_fld ev_STARTING_WITH hnrrrrrrrrrrrrrrrrrrrrrrrrrrrrrrrrrrrrrrrrrrrrrrrrrrrrl
  have F_STARTING_WITH_text := own_fld ev_STARTING_WITH hnrrrrrrrrrrrrrrrrrrrrrrrrrrrrrrrrrrrrrrrrrrrrrrrrrrrrrl
  have F_NOT_BETWEEN_arity := own_fld ev_NOT_BETWEEN hnrrrrrrrrrrrrrrrrrrrrrrrrrrrrrrrrrrrrrrrrrrrrrrrrrrrrrrl
  have F_NOT_BETWEEN_text := own_fld ev_NOT_BETWEEN hnrrrrrrrrrrrrrrrrrrrrrrrrrrrrrrrrrrrrrrrrrrrrrrrrrrrrrrrl
  have F_GREATER_THAN_arity := own_fld ev_GREATER_THAN hnrrrrrrrrrrrrrrrrrrrrrrrrrrrrrrrrrrrrrrrrrrrrrrrrrrrrrrrrl
  have F_GREATER_THAN_text := own_fld ev_GREATER_THAN hnrrrrrrrrrrrrrrrrrrrrrrrrrrrrrrrrrrrrrrrrrrrrrrrrrrrrrrrrrl
  have F_IN_arity := own_fld ev_IN hnrrrrrrrrrrrrrrrrrrrrrrrrrrrrrrrrrrrrrrrrrrrrrrrrrrrrrrrrrrl
  have F_IN_text := own_fld ev_IN hnrrrrrrrrrrrrrrrrrrrrrrrrrrrrrrrrrrrrrrrrrrrrrrrrrrrrrrrrrrrl
  have F_NOT_EQUAL_arity := own_fld ev_NOT_EQUAL hnrrrrrrrrrrrrrrrrrrrrrrrrrrrrrrrrrrrrrrrrrrrrrrrrrrrrrrrrrrrrl
  have F_NOT_EQUAL_text := own_fld ev_NOT_EQUAL hnrrrrrrrrrrrrrrrrrrrrrrrrrrrrrrrrrrrrrrrrrrrrrrrrrrrrrrrrrrrrrl
  have F_NOT_IN_arity := own_fld ev_NOT_IN hnrrrrrrrrrrrrrrrrrrrrrrrrrrrrrrrrrrrrrrrrrrrrrrrrrrrrrrrrrrrrrrl
  have F_NOT_IN_text := own_fld ev_NOT_IN hnrrrrrrrrrrrrrrrrrrrrrrrrrrrrrrrrrrrrrrrrrrrrrrrrrrrrrrrrrrrrrrrl
  have F_ENDING_WITH_arity := own_fld ev_ENDING_WITH hnrrrrrrrrrrrrrrrrrrrrrrrrrrrrrrrrrrrrrrrrrrrrrrrrrrrrrrrrrrrrrrrrl
  have F_ENDING_WITH_text := own_fld ev_ENDING_WITH hnrrrrrrrrrrrrrrrrrrrrrrrrrrrrrrrrrrrrrrrrrrrrrrrrrrrrrrrrrrrrrrrrrl
  have F_BETWEEN_arity := own_fld ev_BETWEEN hnrrrrrrrrrrrrrrrrrrrrrrrrrrrrrrrrrrrrrrrrrrrrrrrrrrrrrrrrrrrrrrrrrrl
  have F_BETWEEN_text := own_fld ev_BETWEEN hnrrrrrrrrrrrrrrrrrrrrrrrrrrrrrrrrrrrrrrrrrrrrrrrrrrrrrrrrrrrrrrrrrrrl
  have F_NOT_CONTAINING_arity := own_fld ev_NOT_CONTAINING hnrrrrrrrrrrrrrrrrrrrrrrrrrrrrrrrrrrrrrrrrrrrrrrrrrrrrrrrrrrrrrrrrrrrrl
  have F_NOT_CONTAINING_text := own_fld ev_NOT_CONTAINING hnrrrrrrrrrrrrrrrrrrrrrrrrrrrrrrrrrrrrrrrrrrrrrrrrrrrrrrrrrrrrrrrrrrrrrl
  have F_CONTAINING_arity := own_fld ev_CONTAINING hnrrrrrrrrrrrrrrrrrrrrrrrrrrrrrrrrrrrrrrrrrrrrrrrrrrrrrrrrrrrrrrrrrrrrrrl
  have F_CONTAINING_text := own_fld ev_CONTAINING hnrrrrrrrrrrrrrrrrrrrrrrrrrrrrrrrrrrrrrrrrrrrrrrrrrrrrrrrrrrrrrrrrrrrrrrrl
  have F_LIKE_arity := own_fld ev_LIKE hnrrrrrrrrrrrrrrrrrrrrrrrrrrrrrrrrrrrrrrrrrrrrrrrrrrrrrrrrrrrrrrrrrrrrrrrrl
  have F_LIKE_text := own_fld ev_LIKE hnrrrrrrrrrrrrrrrrrrrrrrrrrrrrrrrrrrrrrrrrrrrrrrrrrrrrrrrrrrrrrrrrrrrrrrrrrl
  have F_LESS_THAN_OR_EQUAL_arity := own_fld ev_LESS_THAN_OR_EQUAL hnrrrrrrrrrrrrrrrrrrrrrrrrrrrrrrrrrrrrrrrrrrrrrrrrrrrrrrrrrrrrrrrrrrrrrrrrrrl
  have F_LESS_THAN_OR_EQUAL_text := own_fld ev_LESS_THAN_OR_EQUAL hnrrrrrrrrrrrrrrrrrrrrrrrrrrrrrrrrrrrrrrrrrrrrrrrrrrrrrrrrrrrrrrrrrrrrrrrrrrrl
  have F_LESS_THAN_arity := own_fld ev_LESS_THAN hnrrrrrrrrrrrrrrrrrrrrrrrrrrrrrrrrrrrrrrrrrrrrrrrrrrrrrrrrrrrrrrrrrrrrrrrrrrrrl
  have F_LESS_THAN_text := own_fld ev_LESS_THAN hnrrrrrrrrrrrrrrrrrrrrrrrrrrrrrrrrrrrrrrrrrrrrrrrrrrrrrrrrrrrrrrrrrrrrrrrrrrrrrl
  have F_NOT_LIKE_arity := own_fld ev_NOT_LIKE hnrrrrrrrrrrrrrrrrrrrrrrrrrrrrrrrrrrrrrrrrrrrrrrrrrrrrrrrrrrrrrrrrrrrrrrrrrrrrrrl
  have F_NOT_LIKE_text := own_fld ev_NOT_LIKE hnrrrrrrrrrrrrrrrrrrrrrrrrrrrrrrrrrrrrrrrrrrrrrrrrrrrrrrrrrrrrrrrrrrrrrrrrrrrrrrr
  obtain ⟨n, o, h1, h2, h3, _, L, rfl, ⟨rfl, N, -⟩, hq⟩ := rm0 l s _ hw tables_1 w_EQUAL w_IS_TRUE w_IS_FALSE w_GREATER_THAN_OR_EQUAL w_IS_NULL w_IS_NOT_NULL w_STARTING_WITH w_NOT_BETWEEN w_GREATER_THAN w_IN w_NOT_EQUAL w_NOT_IN w_ENDING_WITH w_BETWEEN w_NOT_CONTAINING w_CONTAINING w_LIKE w_LESS_THAN_OR_EQUAL w_LESS_THAN w_NOT_LIKE p0 s.heap s.heap.size (by exact ⟨S_EQUAL, E_EQUAL, S_IS_TRUE, E_IS_TRUE, S_IS_FALSE, E_IS_FALSE, S_GREATER_THAN_OR_EQUAL, E_GREATER_THAN_OR_EQUAL, S_IS_NULL, E_IS_NULL, S_IS_NOT_NULL, E_IS_NOT_NULL, S_STARTING_WITH, E_STARTING_WITH, S_NOT_BETWEEN, E_NOT_BETWEEN, S_GREATER_THAN, E_GREATER_THAN, S_IN, E_IN, S_NOT_EQUAL, E_NOT_EQUAL, S_NOT_IN, E_NOT_IN, S_ENDING_WITH, E_ENDING_WITH, S_BETWEEN, E_BETWEEN, S_NOT_CONTAINING, E_NOT_CONTAINING, S_CONTAINING, E_CONTAINING, S_LIKE, E_LIKE, S_LESS_THAN_OR_EQUAL, E_LESS_THAN_OR_EQUAL, S_LESS_THAN, E_LESS_THAN, S_NOT_LIKE, E_NOT_LIKE, F_EQUAL_ordinal, F_IS_TRUE_ordinal, F_IS_FALSE_ordinal, F_GREATER_THAN_OR_EQUAL_ordinal, F_IS_NULL_ordinal, F_IS_NOT_NULL_ordinal, F_STARTING_WITH_ordinal, F_NOT_BETWEEN_ordinal, F_GREATER_THAN_ordinal, F_IN_ordinal, F_NOT_EQUAL_ordinal, F_IS_FALSE_arity, F_IS_FALSE_text, F_NOT_IN_ordinal, F_ENDING_WITH_ordinal, F_BETWEEN_ordinal, F_NOT_CONTAINING_ordinal, F_CONTAINING_ordinal, F_LIKE_ordinal, F_LESS_THAN_OR_EQUAL_ordinal, F_LESS_THAN_ordinal, F_NOT_LIKE_ordinal, F_IS_TRUE_arity, F_IS_TRUE_text, F_EQUAL_arity, F_EQUAL_text, F_GREATER_THAN_OR_EQUAL_arity, F_GREATER_THAN_OR_EQUAL_text, F_IS_NULL_arity, F_IS_NULL_text, F_IS_NOT_NULL_arity, F_IS_NOT_NULL_text, F_STARTING_WITH_arity, F_STARTING_WITH_text, F_NOT_BETWEEN_arity, F_NOT_BETWEEN_text, F_GREATER_THAN_arity, F_GREATER_THAN_text, F_IN_arity, F_IN_text, F_NOT_EQUAL_arity, F_NOT_EQUAL_text, F_NOT_IN_arity, F_NOT_IN_text, F_ENDING_WITH_arity, F_ENDING_WITH_text, F_BETWEEN_arity, F_BETWEEN_text, F_NOT_CONTAINING_arity, F_NOT_CONTAINING_text, F_CONTAINING_arity, F_CONTAINING_text, F_LIKE_arity, F_LIKE_text, F_LESS_THAN_OR_EQUAL_arity, F_LESS_THAN_OR_EQUAL_text, F_LESS_THAN_arity, F_LESS_THAN_text, F_NOT_LIKE_arity, F_NOT_LIKE_text⟩) p e ha hc hk s m _ below hf ((Spec.applies_iff_loose hf).mp happ).1 ⟨rfl, State.Warmed39.refl s, rfl⟩ trivial
  refine ⟨n, _, h1, h2, h3, hpost _ _ _ _ _ _ ⟨Cond.after_iff.mpr rfl, Cond.after_iff.mpr (eq_i res_at (Term.int_eval (1)) rfl), trivial⟩ ⟨hq.1, hq.2.1, (hq.2.2.sift fun y hy => Or.inr (N y hy)).mono (by decide) (by decide)⟩⟩
theorem main_1_1 : Claimed_1_1 := comes_1 fun _ _ _ _ _ _ h hF => ⟨h.1, hF⟩
theorem main_1_2 : Claimed_1_2 := comes_1 fun _ _ _ _ _ _ h hF => ⟨h.2.1, hF⟩
end Jvm.Pilot.@@N@@
namespace Jvm.Pilot.@@N@@
open Jvm Jvm.ClassFile Sem Op Lib Jvm.Free Jvm.Stand Jvm.Pilot.@@N@@.Jvm.D
/-! MADE BY PROGRAM (witnessworld.py) out of the Statement's table words and the real class files: 12 classes; the members and pool entries that the words name. The judged class is class 1, her method 2. -/
namespace start1
open Jvm.ClassFile
def u (s : String) : CpInfo := .utf8 (stringToUtf16 s)
/-- a pool by its gaps: so many unusable entries, then the entry; so many at the end -/
def gap : Nat → List CpInfo → List CpInfo
  | 0, r => r
  | n + 1, r => .unusable :: gap n r
def poolList (es : List (Nat × CpInfo)) (last : Nat) : List CpInfo := es.foldr (fun e r => gap e.1 (e.2 :: r)) (gap last [])
def pool (es : List (Nat × CpInfo)) (last : Nat) : Array CpInfo := ⟨poolList es last⟩
def fileOf (pool : Array CpInfo) (this : Nat) (attrs : Array Attribute := #[]) (ms : Array MethodInfo := #[]) (fl : Nat := 33) (sup : Nat := 0) (ifs : Array Nat := #[]) (fds : Array FieldInfo := #[]) : ClassFile where
  minorVersion := 0
  majorVersion := 65
  constantPool := pool
  accessFlags := fl
  thisClass := this
  superClass := sup
  interfaces := ifs
  fields := fds
  methods := ms
  attributes := attrs
def plain (name : String) (sup : Option ClassId) : Class where
  name := name
  kind := .ordinary
  loader := none
  accessFlags := 33
  super := sup
  interfaces := #[]
  cf := none
  fields := #[]
  methods := #[]
  instanceTypes := #[]
  staticTypes := #[]
  resolved := #[]
  callSites := []
  init := .initialized
  statics := none
  mirror := none

def pool0 : Array CpInfo := pool [(5, u "<init>"), (0, u "()V"), (1, .class_ 10), (1, u "java/lang/Object")] 113

def k0m0 : Method := { name := "<init>", desc := "()V", sig := { parameters := [], returnType := none }, accessFlags := 1, code := none }
/-- java/lang/Object -/
def k0 : Class := { plain "java/lang/Object" none with
  accessFlags := 33
  interfaces := #[]
  cf := some (fileOf pool0 8 #[] #[{ accessFlags := 1, nameIndex := 5, descriptorIndex := 6, attributes := #[] }] 33 0 #[] #[])
  fields := #[]
  methods := #[k0m0]
  instanceTypes := #[]
  staticTypes := #[]
  resolved := Array.replicate 124 none
  statics := none }

def pool1 : Array CpInfo := pool [(2, .class_ 4), (1, u "java/lang/Object"), (0, u "<init>"), (0, u "()V"), (0, .fieldref 8 9), (0, .class_ 10), (0, .nameAndType 11 12), (0, u "com/example/rootward/rootward/jdbc/Condition$Operator"), (0, u "EQUAL"), (0, u "Lcom/example/rootward/rootward/jdbc/Condition$Operator;"), (0, .fieldref 8 14), (0, .nameAndType 15 12), (0, u "NOT_EQUAL"), (0, .fieldref 8 17), (0, .nameAndType 18 12), (0, u "GREATER_THAN"), (0, .fieldref 8 20), (0, .nameAndType 21 12), (0, u "GREATER_THAN_OR_EQUAL"), (0, .fieldref 8 23), (0, .nameAndType 24 12), (0, u "LESS_THAN"), (0, .fieldref 8 26), (0, .nameAndType 27 12), (0, u "LESS_THAN_OR_EQUAL"), (0, .fieldref 8 29), (0, .nameAndType 30 12), (0, u "BETWEEN"), (0, .fieldref 8 32), (0, .nameAndType 33 12), (0, u "NOT_BETWEEN"), (0, .fieldref 8 35), (0, .nameAndType 36 12), (0, u "IN"), (0, .fieldref 8 38), (0, .nameAndType 39 12), (0, u "NOT_IN"), (0, .fieldref 8 41), (0, .nameAndType 42 12), (0, u "IS_NULL"), (0, .fieldref 8 44), (0, .nameAndType 45 12), (0, u "IS_NOT_NULL"), (0, .fieldref 8 47), (0, .nameAndType 48 12), (0, u "LIKE"), (0, .fieldref 8 50), (0, .nameAndType 51 12), (0, u "NOT_LIKE"), (0, .fieldref 8 53), (0, .nameAndType 54 12), (0, u "STARTING_WITH"), (0, .fieldref 8 56), (0, .nameAndType 57 12), (0, u "ENDING_WITH"), (0, .fieldref 8 59), (0, .nameAndType 60 12), (0, u "CONTAINING"), (0, .fieldref 8 62), (0, .nameAndType 63 12), (0, u "NOT_CONTAINING"), (0, .fieldref 8 65), (0, .nameAndType 66 12), (0, u "IS_TRUE"), (0, .fieldref 8 68), (0, .nameAndType 69 12), (0, u "IS_FALSE"), (0, .integer 2147483647), (0, .methodref 72 73), (0, .class_ 74), (0, .nameAndType 75 76), (0, u "com/example/rootward/rootward/jdbc/OperatorTestsTruthPinLaw"), (0, u "pick"), (0, u "(I)Lcom/example/rootward/rootward/jdbc/Condition$Operator;"), (0, .methodref 8 78), (0, .nameAndType 79 80), (0, u "testsTruth"), (0, u "()Z"), (0, .methodref 8 82), (0, .nameAndType 83 84), (0, u "arity"), (0, u "()I"), (0, .methodref 8 86), (0, .nameAndType 87 80), (0, u "takesText"), (0, .methodref 8 89), (0, .nameAndType 90 80), (0, u "takesCollection"), (3, u "law"), (0, u "(I)Z")] 6

def k1m0 : Method := { name := "<init>", desc := "()V", sig := { parameters := [], returnType := none }, accessFlags := 1, code := none }
def k1c1 : Code := { maxStack := 1, maxLocals := 1, code := method_2_code, exceptionTable := #[], attributes := #[] }
def k1m1 : Method := { name := "pick", desc := "(I)Lcom/example/rootward/rootward/jdbc/Condition$Operator;", sig := { parameters := [.int], returnType := some (.object "com/example/rootward/rootward/jdbc/Condition$Operator") }, accessFlags := 10, code := some k1c1 }
def k1c2 : Code := { maxStack := 2, maxLocals := 5, code := code, exceptionTable := #[], attributes := #[] }
def k1m2 : Method := { name := "law", desc := "(I)Z", sig := { parameters := [.int], returnType := some .boolean }, accessFlags := 9, code := some k1c2 }
/-- com/example/rootward/rootward/jdbc/OperatorTestsTruthPinLaw -/
def k1 : Class := { plain "com/example/rootward/rootward/jdbc/OperatorTestsTruthPinLaw" (some 0) with
  accessFlags := 49
  interfaces := #[]
  cf := some (fileOf pool1 72 #[] #[{ accessFlags := 1, nameIndex := 5, descriptorIndex := 6, attributes := #[] }, { accessFlags := 10, nameIndex := 75, descriptorIndex := 76, attributes := #[] }, { accessFlags := 9, nameIndex := 94, descriptorIndex := 95, attributes := #[] }] 49 2 #[] #[])
  fields := #[]
  methods := #[k1m0, k1m1, k1m2]
  instanceTypes := #[]
  staticTypes := #[]
  resolved := Array.replicate 102 none
  statics := none }

def pool2 : Array CpInfo := pool [(1, .class_ 2), (0, u "java/lang/constant/Constable"), (0, .class_ 4), (0, u "java/lang/Object")] 6

/-- java/lang/constant/Constable -/
def k2 : Class := { plain "java/lang/constant/Constable" (some 0) with
  accessFlags := 1537
  interfaces := #[]
  cf := some (fileOf pool2 1 #[] #[] 1537 3 #[] #[])
  fields := #[]
  methods := #[]
  instanceTypes := #[]
  staticTypes := #[]
  resolved := Array.replicate 11 none
  statics := none }

def pool3 : Array CpInfo := pool [(1, .class_ 2), (0, u "java/lang/Comparable"), (0, .class_ 4), (0, u "java/lang/Object")] 7

/-- java/lang/Comparable -/
def k3 : Class := { plain "java/lang/Comparable" (some 0) with
  accessFlags := 1537
  interfaces := #[]
  cf := some (fileOf pool3 1 #[] #[] 1537 3 #[] #[])
  fields := #[]
  methods := #[]
  instanceTypes := #[]
  staticTypes := #[]
  resolved := Array.replicate 12 none
  statics := none }

def pool4 : Array CpInfo := pool [(1, .class_ 2), (0, u "java/io/Serializable"), (0, .class_ 4), (0, u "java/lang/Object")] 2

/-- java/io/Serializable -/
def k4 : Class := { plain "java/io/Serializable" (some 0) with
  accessFlags := 1537
  interfaces := #[]
  cf := some (fileOf pool4 1 #[] #[] 1537 3 #[] #[])
  fields := #[]
  methods := #[]
  instanceTypes := #[]
  staticTypes := #[]
  resolved := Array.replicate 7 none
  statics := none }

def pool5 : Array CpInfo := pool [(2, .class_ 4), (1, u "java/lang/Enum"), (0, u "name"), (0, u "Ljava/lang/String;"), (2, u "ordinal"), (0, u "I"), (1, .class_ 14), (1, u "java/lang/Object"), (4, u "hash"), (86, .class_ 108), (1, u "java/lang/Enum$EnumDesc"), (2, .class_ 112), (0, u "java/lang/constant/Constable"), (0, .class_ 114), (0, u "java/lang/Comparable"), (0, .class_ 116), (0, u "java/io/Serializable")] 87

/-- java/lang/Enum -/
def k5 : Class := { plain "java/lang/Enum" (some 0) with
  accessFlags := 1057
  interfaces := #[2, 3, 4]
  cf := some (fileOf pool5 2 #[.nestMembers #[106]] #[] 1057 12 #[111, 113, 115] #[{ accessFlags := 18, nameIndex := 5, descriptorIndex := 6, attributes := #[] }, { accessFlags := 18, nameIndex := 9, descriptorIndex := 10, attributes := #[] }, { accessFlags := 2, nameIndex := 19, descriptorIndex := 10, attributes := #[] }])
  fields := #[{ name := "name", type := (.object "java/lang/String"), accessFlags := 18, slot := 0, constantValue := 0 }, { name := "ordinal", type := .int, accessFlags := 18, slot := 1, constantValue := 0 }, { name := "hash", type := .int, accessFlags := 2, slot := 2, constantValue := 0 }]
  methods := #[]
  instanceTypes := #[(.object "java/lang/String"), .int, .int]
  staticTypes := #[]
  resolved := Array.replicate 204 none
  statics := none }

def pool6 : Array CpInfo := pool [(1, .class_ 2), (0, u "com/example/rootward/rootward/jdbc/Condition$Operator"), (2, u "EQUAL"), (0, u "Lcom/example/rootward/rootward/jdbc/Condition$Operator;"), (2, u "NOT_EQUAL"), (2, u "GREATER_THAN"), (2, u "GREATER_THAN_OR_EQUAL"), (2, u "LESS_THAN"), (2, u "LESS_THAN_OR_EQUAL"), (2, u "BETWEEN"), (2, u "NOT_BETWEEN"), (0, .fieldref 1 29), (0, .nameAndType 30 6), (0, u "IN"), (0, .fieldref 1 32), (0, .nameAndType 33 6), (0, u "NOT_IN"), (2, u "IS_NULL"), (2, u "IS_NOT_NULL"), (2, u "LIKE"), (2, u "NOT_LIKE"), (2, u "STARTING_WITH"), (2, u "ENDING_WITH"), (2, u "CONTAINING"), (2, u "NOT_CONTAINING"), (0, .fieldref 1 59), (0, .nameAndType 60 6), (0, u "IS_TRUE"), (0, .fieldref 1 62), (0, .nameAndType 63 6), (0, u "IS_FALSE"), (2, u "$VALUES"), (0, u "[Lcom/example/rootward/rootward/jdbc/Condition$Operator;"), (6, .class_ 76), (1, u "java/lang/Enum"), (8, u "sql"), (0, u "Ljava/lang/String;"), (0, .fieldref 1 88), (0, .nameAndType 89 90), (0, u "arity"), (0, u "I"), (0, .fieldref 1 92), (0, .nameAndType 93 94), (0, u "text"), (0, u "Z"), (2, u "before"), (2, u "after"), (3, u "()Z"), (7, u "()I"), (87, u "takesCollection"), (1, u "takesText"), (0, u "testsTruth"), (8, .class_ 213), (0, u "com/example/rootward/rootward/jdbc/Condition")] 2

def k6c0 : Code := { maxStack := 1, maxLocals := 1, code := prog_32_method_5_code, exceptionTable := #[], attributes := #[] }
def k6m0 : Method := { name := "arity", desc := "()I", sig := { parameters := [], returnType := some .int }, accessFlags := 1, code := some k6c0 }
def k6c1 : Code := { maxStack := 2, maxLocals := 1, code := prog_32_method_6_code, exceptionTable := #[], attributes := #[] }
def k6m1 : Method := { name := "takesCollection", desc := "()Z", sig := { parameters := [], returnType := some .boolean }, accessFlags := 1, code := some k6c1 }
def k6c2 : Code := { maxStack := 1, maxLocals := 1, code := prog_32_method_7_code, exceptionTable := #[], attributes := #[] }
def k6m2 : Method := { name := "takesText", desc := "()Z", sig := { parameters := [], returnType := some .boolean }, accessFlags := 1, code := some k6c2 }
def k6c3 : Code := { maxStack := 2, maxLocals := 1, code := prog_32_method_8_code, exceptionTable := #[], attributes := #[] }
def k6m3 : Method := { name := "testsTruth", desc := "()Z", sig := { parameters := [], returnType := some .boolean }, accessFlags := 0, code := some k6c3 }
/-- com/example/rootward/rootward/jdbc/Condition$Operator -/
def k6 : Class := { plain "com/example/rootward/rootward/jdbc/Condition$Operator" (some 5) with
  accessFlags := 16433
  interfaces := #[]
  cf := some (fileOf pool6 1 #[.nestHost 212] #[{ accessFlags := 1, nameIndex := 89, descriptorIndex := 112, attributes := #[] }, { accessFlags := 1, nameIndex := 200, descriptorIndex := 104, attributes := #[] }, { accessFlags := 1, nameIndex := 202, descriptorIndex := 104, attributes := #[] }, { accessFlags := 0, nameIndex := 203, descriptorIndex := 104, attributes := #[] }] 16433 74 #[] #[{ accessFlags := 16409, nameIndex := 5, descriptorIndex := 6, attributes := #[] }, { accessFlags := 16409, nameIndex := 9, descriptorIndex := 6, attributes := #[] }, { accessFlags := 16409, nameIndex := 12, descriptorIndex := 6, attributes := #[] }, { accessFlags := 16409, nameIndex := 15, descriptorIndex := 6, attributes := #[] }, { accessFlags := 16409, nameIndex := 18, descriptorIndex := 6, attributes := #[] }, { accessFlags := 16409, nameIndex := 21, descriptorIndex := 6, attributes := #[] }, { accessFlags := 16409, nameIndex := 24, descriptorIndex := 6, attributes := #[] }, { accessFlags := 16409, nameIndex := 27, descriptorIndex := 6, attributes := #[] }, { accessFlags := 16409, nameIndex := 30, descriptorIndex := 6, attributes := #[] }, { accessFlags := 16409, nameIndex := 33, descriptorIndex := 6, attributes := #[] }, { accessFlags := 16409, nameIndex := 36, descriptorIndex := 6, attributes := #[] }, { accessFlags := 16409, nameIndex := 39, descriptorIndex := 6, attributes := #[] }, { accessFlags := 16409, nameIndex := 42, descriptorIndex := 6, attributes := #[] }, { accessFlags := 16409, nameIndex := 45, descriptorIndex := 6, attributes := #[] }, { accessFlags := 16409, nameIndex := 48, descriptorIndex := 6, attributes := #[] }, { accessFlags := 16409, nameIndex := 51, descriptorIndex := 6, attributes := #[] }, { accessFlags := 16409, nameIndex := 54, descriptorIndex := 6, attributes := #[] }, { accessFlags := 16409, nameIndex := 57, descriptorIndex := 6, attributes := #[] }, { accessFlags := 16409, nameIndex := 60, descriptorIndex := 6, attributes := #[] }, { accessFlags := 16409, nameIndex := 63, descriptorIndex := 6, attributes := #[] }, { accessFlags := 18, nameIndex := 85, descriptorIndex := 86, attributes := #[] }, { accessFlags := 18, nameIndex := 89, descriptorIndex := 90, attributes := #[] }, { accessFlags := 18, nameIndex := 93, descriptorIndex := 94, attributes := #[] }, { accessFlags := 18, nameIndex := 97, descriptorIndex := 86, attributes := #[] }, { accessFlags := 18, nameIndex := 100, descriptorIndex := 86, attributes := #[] }, { accessFlags := 4122, nameIndex := 66, descriptorIndex := 67, attributes := #[] }])
  fields := #[{ name := "EQUAL", type := (.object "com/example/rootward/rootward/jdbc/Condition$Operator"), accessFlags := 16409, slot := 0, constantValue := 0 }, { name := "NOT_EQUAL", type := (.object "com/example/rootward/rootward/jdbc/Condition$Operator"), accessFlags := 16409, slot := 1, constantValue := 0 }, { name := "GREATER_THAN", type := (.object "com/example/rootward/rootward/jdbc/Condition$Operator"), accessFlags := 16409, slot := 2, constantValue := 0 }, { name := "GREATER_THAN_OR_EQUAL", type := (.object "com/example/rootward/rootward/jdbc/Condition$Operator"), accessFlags := 16409, slot := 3, constantValue := 0 }, { name := "LESS_THAN", type := (.object "com/example/rootward/rootward/jdbc/Condition$Operator"), accessFlags := 16409, slot := 4, constantValue := 0 }, { name := "LESS_THAN_OR_EQUAL", type := (.object "com/example/rootward/rootward/jdbc/Condition$Operator"), accessFlags := 16409, slot := 5, constantValue := 0 }, { name := "BETWEEN", type := (.object "com/example/rootward/rootward/jdbc/Condition$Operator"), accessFlags := 16409, slot := 6, constantValue := 0 }, { name := "NOT_BETWEEN", type := (.object "com/example/rootward/rootward/jdbc/Condition$Operator"), accessFlags := 16409, slot := 7, constantValue := 0 }, { name := "IN", type := (.object "com/example/rootward/rootward/jdbc/Condition$Operator"), accessFlags := 16409, slot := 8, constantValue := 0 }, { name := "NOT_IN", type := (.object "com/example/rootward/rootward/jdbc/Condition$Operator"), accessFlags := 16409, slot := 9, constantValue := 0 }, { name := "IS_NULL", type := (.object "com/example/rootward/rootward/jdbc/Condition$Operator"), accessFlags := 16409, slot := 10, constantValue := 0 }, { name := "IS_NOT_NULL", type := (.object "com/example/rootward/rootward/jdbc/Condition$Operator"), accessFlags := 16409, slot := 11, constantValue := 0 }, { name := "LIKE", type := (.object "com/example/rootward/rootward/jdbc/Condition$Operator"), accessFlags := 16409, slot := 12, constantValue := 0 }, { name := "NOT_LIKE", type := (.object "com/example/rootward/rootward/jdbc/Condition$Operator"), accessFlags := 16409, slot := 13, constantValue := 0 }, { name := "STARTING_WITH", type := (.object "com/example/rootward/rootward/jdbc/Condition$Operator"), accessFlags := 16409, slot := 14, constantValue := 0 }, { name := "ENDING_WITH", type := (.object "com/example/rootward/rootward/jdbc/Condition$Operator"), accessFlags := 16409, slot := 15, constantValue := 0 }, { name := "CONTAINING", type := (.object "com/example/rootward/rootward/jdbc/Condition$Operator"), accessFlags := 16409, slot := 16, constantValue := 0 }, { name := "NOT_CONTAINING", type := (.object "com/example/rootward/rootward/jdbc/Condition$Operator"), accessFlags := 16409, slot := 17, constantValue := 0 }, { name := "IS_TRUE", type := (.object "com/example/rootward/rootward/jdbc/Condition$Operator"), accessFlags := 16409, slot := 18, constantValue := 0 }, { name := "IS_FALSE", type := (.object "com/example/rootward/rootward/jdbc/Condition$Operator"), accessFlags := 16409, slot := 19, constantValue := 0 }, { name := "sql", type := (.object "java/lang/String"), accessFlags := 18, slot := 3, constantValue := 0 }, { name := "arity", type := .int, accessFlags := 18, slot := 4, constantValue := 0 }, { name := "text", type := .boolean, accessFlags := 18, slot := 5, constantValue := 0 }, { name := "before", type := (.object "java/lang/String"), accessFlags := 18, slot := 6, constantValue := 0 }, { name := "after", type := (.object "java/lang/String"), accessFlags := 18, slot := 7, constantValue := 0 }, { name := "$VALUES", type := (.array (.object "com/example/rootward/rootward/jdbc/Condition$Operator")), accessFlags := 4122, slot := 20, constantValue := 0 }]
  methods := #[k6m0, k6m1, k6m2, k6m3]
  instanceTypes := #[(.object "java/lang/String"), .int, .int, (.object "java/lang/String"), .int, .boolean, (.object "java/lang/String"), (.object "java/lang/String")]
  staticTypes := #[(.object "com/example/rootward/rootward/jdbc/Condition$Operator"), (.object "com/example/rootward/rootward/jdbc/Condition$Operator"), (.object "com/example/rootward/rootward/jdbc/Condition$Operator"), (.object "com/example/rootward/rootward/jdbc/Condition$Operator"), (.object "com/example/rootward/rootward/jdbc/Condition$Operator"), (.object "com/example/rootward/rootward/jdbc/Condition$Operator"), (.object "com/example/rootward/rootward/jdbc/Condition$Operator"), (.object "com/example/rootward/rootward/jdbc/Condition$Operator"), (.object "com/example/rootward/rootward/jdbc/Condition$Operator"), (.object "com/example/rootward/rootward/jdbc/Condition$Operator"), (.object "com/example/rootward/rootward/jdbc/Condition$Operator"), (.object "com/example/rootward/rootward/jdbc/Condition$Operator"), (.object "com/example/rootward/rootward/jdbc/Condition$Operator"), (.object "com/example/rootward/rootward/jdbc/Condition$Operator"), (.object "com/example/rootward/rootward/jdbc/Condition$Operator"), (.object "com/example/rootward/rootward/jdbc/Condition$Operator"), (.object "com/example/rootward/rootward/jdbc/Condition$Operator"), (.object "com/example/rootward/rootward/jdbc/Condition$Operator"), (.object "com/example/rootward/rootward/jdbc/Condition$Operator"), (.object "com/example/rootward/rootward/jdbc/Condition$Operator"), (.array (.object "com/example/rootward/rootward/jdbc/Condition$Operator"))]
  resolved := Array.replicate 216 none
  statics := some 0 }

def pool7 : Array CpInfo := pool [(1, u "java/lang/Cloneable"), (0, .class_ 1), (0, u "java/lang/Object"), (0, .class_ 3)] 3

/-- java/lang/Cloneable -/
def k7 : Class := { plain "java/lang/Cloneable" (some 0) with
  accessFlags := 1537
  interfaces := #[]
  cf := some (fileOf pool7 2 #[] #[] 1537 4 #[] #[])
  fields := #[]
  methods := #[]
  instanceTypes := #[]
  staticTypes := #[]
  resolved := Array.replicate 8 none
  statics := none }

/-- the primitive byte -/
def k8 : Class := { plain "byte" none with kind := .primitive 'B', accessFlags := 0x411 }
/-- [B -/
def k9 : Class := { plain "[B" (some 0) with kind := .array 8 .byte, interfaces := #[7, 4], accessFlags := 1041 }

/-- the primitive int -/
def k10 : Class := { plain "int" none with kind := .primitive 'I', accessFlags := 0x411 }
/-- [I -/
def k11 : Class := { plain "[I" (some 0) with kind := .array 10 .int, interfaces := #[7, 4], accessFlags := 1041 }

def heap : Heap := #[{ cls := 6, slots := #[.ref 1, .ref 11, .ref 9, .ref 4, .ref 19, .ref 18, .ref 14, .ref 8, .ref 10, .ref 12, .ref 5, .ref 6, .ref 17, .ref 20, .ref 7, .ref 13, .ref 16, .ref 15, .ref 2, .ref 3, .null], vm := .statics 6 },
  { cls := 6, slots := #[.null, .int 0, .int 0, .null, .int 1, .int 0, .null, .null], vm := .none },
  { cls := 6, slots := #[.null, .int 18, .int 0, .null, .int 0, .int 0, .null, .null], vm := .none },
  { cls := 6, slots := #[.null, .int 19, .int 0, .null, .int 0, .int 0, .null, .null], vm := .none },
  { cls := 6, slots := #[.null, .int 3, .int 0, .null, .int 1, .int 0, .null, .null], vm := .none },
  { cls := 6, slots := #[.null, .int 10, .int 0, .null, .int 0, .int 0, .null, .null], vm := .none },
  { cls := 6, slots := #[.null, .int 11, .int 0, .null, .int 0, .int 0, .null, .null], vm := .none },
  { cls := 6, slots := #[.null, .int 14, .int 0, .null, .int 1, .int 1, .null, .null], vm := .none },
  { cls := 6, slots := #[.null, .int 7, .int 0, .null, .int 2, .int 0, .null, .null], vm := .none },
  { cls := 6, slots := #[.null, .int 2, .int 0, .null, .int 1, .int 0, .null, .null], vm := .none },
  { cls := 6, slots := #[.null, .int 8, .int 0, .null, .int 1, .int 0, .null, .null], vm := .none },
  { cls := 6, slots := #[.null, .int 1, .int 0, .null, .int 1, .int 0, .null, .null], vm := .none },
  { cls := 6, slots := #[.null, .int 9, .int 0, .null, .int 1, .int 0, .null, .null], vm := .none },
  { cls := 6, slots := #[.null, .int 15, .int 0, .null, .int 1, .int 1, .null, .null], vm := .none },
  { cls := 6, slots := #[.null, .int 6, .int 0, .null, .int 2, .int 0, .null, .null], vm := .none },
  { cls := 6, slots := #[.null, .int 17, .int 0, .null, .int 1, .int 1, .null, .null], vm := .none },
  { cls := 6, slots := #[.null, .int 16, .int 0, .null, .int 1, .int 1, .null, .null], vm := .none },
  { cls := 6, slots := #[.null, .int 12, .int 0, .null, .int 1, .int 1, .null, .null], vm := .none },
  { cls := 6, slots := #[.null, .int 5, .int 0, .null, .int 1, .int 0, .null, .null], vm := .none },
  { cls := 6, slots := #[.null, .int 4, .int 0, .null, .int 1, .int 0, .null, .null], vm := .none },
  { cls := 6, slots := #[.null, .int 13, .int 0, .null, .int 1, .int 1, .null, .null], vm := .none }]
def classes : Array Class := #[k0, k1, k2, k3, k4, k5, k6, k7, k8, k9, k10, k11]
def interned : List (Array UInt16 × Addr) := []
def slotsUsed : Nat := 181
def theMethod : MethodId := ⟨1, 2⟩
def args0 : Array Value := #[.int 5]
def aboutOver (below : List Frame) : State where
  vm := { classes := classes, interned := interned.toArray }
  heap := heap
  slotsUsed := slotsUsed
  threads := #[{ frames := .invoking theMethod args0 :: below }]
def below0 : List Frame := [.native { method := ⟨0, 0⟩, args := #[] }]
def about1 : State := aboutOver below0
def p0 : Program := .bare "" "" ""
def e0 : Env := launch0.env 0 0 0
theorem w_frames : about1.frames = Frame.invoking theMethod args0 :: below0 := rfl
set_option maxRecDepth 65536 in
theorem w_args : argsFit about1.vm theMethod args0 = true := by decide +kernel
set_option maxRecDepth 65536 in
theorem w_heap : heapFits about1 = true := by decide +kernel
set_option maxRecDepth 65536 in
theorem w_runnable : about1.curStatus? = some .runnable := by decide +kernel
set_option maxRecDepth 65536 in
theorem w_alone : about1.alone = true := by decide +kernel
set_option maxRecDepth 65536 in
theorem w_named : about1.methodNamed? x = some theMethod := by decide +kernel
set_option maxRecDepth 65536 in
theorem w_hears : about1.hears theMethod below0 = true := by decide +kernel
set_option maxRecDepth 65536 in
theorem w_ripe : about1.ripe theMethod args0 below0 = true := by decide +kernel
theorem w_running : about1.status = .running := rfl
set_option maxRecDepth 65536 in
theorem w_room : about1.hasRoom e0.platform room_1 = true :=
  launch0.hasRoom_least _ room_1 (by decide +kernel) (by decide +kernel) (by decide +kernel) (by decide +kernel) (by decide +kernel) (by decide +kernel)
theorem allAtoms_all (ts : List Jvm.Cond) (a : Array Jvm.Value) (st : Jvm.State) : (allAtoms ts).before a st = ts.all (fun c => c.before a st) := by
  induction ts with
  | nil => rfl
  | cons c t ih =>
    show (Jvm.Cond.and c (allAtoms t)).before a st = _
    rw [Jvm.Cond.before_and, ih, List.all_cons]
def words1 : List Jvm.Cond := Jvm.Cond.code x code maxLocals ret :: tables_1
/-- a 'code' word, met by the world's own term for the bytes: nothing is compared byte by byte -/
theorem code_word {y : MethodName} {bytes : ByteArray} {mx : Nat} {rt : Option FieldType} {a : Array Value} {s : State} {m : MethodId} {meth : Method} {c : Code} (h1 : s.methodNamed? y = some m) (h2 : s.vm.method? m = some meth) (h3 : meth.code = some c) (h4 : c.code = bytes)
    (h5 : (c.maxLocals == mx && c.exceptionTable.isEmpty && decide (c.maxStack ≤ mostOperands) && decide (meth.sig.returnType = rt) && !meth.locks && decide (parseMethodDescriptor y.desc = some meth.sig)) = true) : (Jvm.Cond.code y bytes mx rt).before a s = true := by
  simp only [Bool.and_eq_true, beq_iff_eq, Bool.not_eq_true', decide_eq_true_eq] at h5
  obtain ⟨⟨⟨⟨⟨g1, g2⟩, g3⟩, g4⟩, g5⟩, g6⟩ := h5
  simp [Cond.before, Cond.holds, Cond.value, h1, h2, h3, h4, g1, g2, g3, g4, g5, g6]
def isCode : Jvm.Cond → Bool
  | .code _ _ _ _ => true
  | _ => false
theorem all_split {L : List Jvm.Cond} {P : Jvm.Cond → Bool} (h1 : L.all (fun c => isCode c || P c) = true) (h2 : ∀ c ∈ L.filter isCode, P c = true) : L.all P = true := by
  refine List.all_eq_true.mpr fun c hc => ?_
  have h := List.all_eq_true.mp h1 c hc
  rcases Bool.eq_false_or_eq_true (isCode c) with hi | hi
  · exact h2 c (List.mem_filter.mpr ⟨hc, hi⟩)
  · simpa [hi] using h
set_option maxRecDepth 65536 in
theorem w_c0 : (Jvm.Cond.code x code maxLocals ret).before args0 about1 = true := code_word (m := ⟨1, 2⟩) (meth := k1m2) (c := k1c2) (by decide +kernel) rfl rfl rfl (by decide +kernel)
set_option maxRecDepth 65536 in
theorem w_c1 : (Jvm.Cond.code ({ cls := "com/example/rootward/rootward/jdbc/OperatorTestsTruthPinLaw", name := "pick", desc := "(I)Lcom/example/rootward/rootward/jdbc/Condition$Operator;" } : Jvm.MethodName) method_2_code (1 : Nat) (Option.some (Jvm.ClassFile.FieldType.object "com/example/rootward/rootward/jdbc/Condition$Operator"))).before args0 about1 = true := code_word (m := ⟨1, 1⟩) (meth := k1m1) (c := k1c1) (by decide +kernel) rfl rfl rfl (by decide +kernel)
set_option maxRecDepth 65536 in
theorem w_c2 : (Jvm.Cond.code ({ cls := "com/example/rootward/rootward/jdbc/Condition$Operator", name := "testsTruth", desc := "()Z" } : Jvm.MethodName) prog_32_method_8_code (1 : Nat) (Option.some Jvm.ClassFile.FieldType.boolean)).before args0 about1 = true := code_word (m := ⟨6, 3⟩) (meth := k6m3) (c := k6c3) (by decide +kernel) rfl rfl rfl (by decide +kernel)
set_option maxRecDepth 65536 in
theorem w_c3 : (Jvm.Cond.code ({ cls := "com/example/rootward/rootward/jdbc/Condition$Operator", name := "arity", desc := "()I" } : Jvm.MethodName) prog_32_method_5_code (1 : Nat) (Option.some Jvm.ClassFile.FieldType.int)).before args0 about1 = true := code_word (m := ⟨6, 0⟩) (meth := k6m0) (c := k6c0) (by decide +kernel) rfl rfl rfl (by decide +kernel)
set_option maxRecDepth 65536 in
theorem w_c4 : (Jvm.Cond.code ({ cls := "com/example/rootward/rootward/jdbc/Condition$Operator", name := "takesText", desc := "()Z" } : Jvm.MethodName) prog_32_method_7_code (1 : Nat) (Option.some Jvm.ClassFile.FieldType.boolean)).before args0 about1 = true := code_word (m := ⟨6, 2⟩) (meth := k6m2) (c := k6c2) (by decide +kernel) rfl rfl rfl (by decide +kernel)
set_option maxRecDepth 65536 in
theorem w_c5 : (Jvm.Cond.code ({ cls := "com/example/rootward/rootward/jdbc/Condition$Operator", name := "takesCollection", desc := "()Z" } : Jvm.MethodName) prog_32_method_6_code (1 : Nat) (Option.some Jvm.ClassFile.FieldType.boolean)).before args0 about1 = true := code_word (m := ⟨6, 1⟩) (meth := k6m1) (c := k6c1) (by decide +kernel) rfl rfl rfl (by decide +kernel)
def codes1 : List Jvm.Cond := [Jvm.Cond.code x code maxLocals ret, Jvm.Cond.code ({ cls := "com/example/rootward/rootward/jdbc/OperatorTestsTruthPinLaw", name := "pick", desc := "(I)Lcom/example/rootward/rootward/jdbc/Condition$Operator;" } : Jvm.MethodName) method_2_code (1 : Nat) (Option.some (Jvm.ClassFile.FieldType.object "com/example/rootward/rootward/jdbc/Condition$Operator")), Jvm.Cond.code ({ cls := "com/example/rootward/rootward/jdbc/Condition$Operator", name := "testsTruth", desc := "()Z" } : Jvm.MethodName) prog_32_method_8_code (1 : Nat) (Option.some Jvm.ClassFile.FieldType.boolean), Jvm.Cond.code ({ cls := "com/example/rootward/rootward/jdbc/Condition$Operator", name := "arity", desc := "()I" } : Jvm.MethodName) prog_32_method_5_code (1 : Nat) (Option.some Jvm.ClassFile.FieldType.int), Jvm.Cond.code ({ cls := "com/example/rootward/rootward/jdbc/Condition$Operator", name := "takesText", desc := "()Z" } : Jvm.MethodName) prog_32_method_7_code (1 : Nat) (Option.some Jvm.ClassFile.FieldType.boolean), Jvm.Cond.code ({ cls := "com/example/rootward/rootward/jdbc/Condition$Operator", name := "takesCollection", desc := "()Z" } : Jvm.MethodName) prog_32_method_6_code (1 : Nat) (Option.some Jvm.ClassFile.FieldType.boolean)]
set_option maxRecDepth 65536 in
theorem codes_eq : words1.filter isCode = codes1 := rfl
theorem w_codes : ∀ c ∈ words1.filter isCode, c.before args0 about1 = true := by
  rw [codes_eq]
  intro c hc
  simp only [codes1, List.mem_cons, List.not_mem_nil, or_false] at hc
  rcases hc with rfl | rfl | rfl | rfl | rfl | rfl
  · exact w_c0
  · exact w_c1
  · exact w_c2
  · exact w_c3
  · exact w_c4
  · exact w_c5
set_option maxRecDepth 65536 in
theorem w_t1 : (words1.take 24).all (fun c => isCode c || c.before args0 about1) = true := by decide +kernel
set_option maxRecDepth 65536 in
theorem w_t2 : ((words1.drop 24).take 24).all (fun c => isCode c || c.before args0 about1) = true := by decide +kernel
set_option maxRecDepth 65536 in
theorem w_t3 : (((words1.drop 24).drop 24).take 24).all (fun c => isCode c || c.before args0 about1) = true := by decide +kernel
set_option maxRecDepth 65536 in
theorem w_t4 : (((words1.drop 24).drop 24).drop 24).all (fun c => isCode c || c.before args0 about1) = true := by decide +kernel
theorem w_tables : (allAtoms (Jvm.Cond.code x code maxLocals ret :: tables_1)).before args0 about1 = true := by
  rw [allAtoms_all]
  show words1.all (fun c => c.before args0 about1) = true
  refine all_split ?_ w_codes
  rw [← List.take_append_drop 24 words1, List.all_append, w_t1, ← List.take_append_drop 24 (words1.drop 24), List.all_append, w_t2, ← List.take_append_drop 24 ((words1.drop 24).drop 24), List.all_append, w_t3, w_t4]
  rfl
set_option maxRecDepth 65536 in
theorem w_case : (Jvm.Cond.and given_1 narrow_1).before args0 about1 = true := by decide +kernel
theorem w_applies : (headSpec (Jvm.Cond.code x code maxLocals ret :: tables_1) room_1).applies x e0.platform about1 = true :=
  (Spec.applies_iff w_frames).mpr ⟨w_running, w_runnable, w_alone, w_named, w_hears, w_ripe, w_room, w_tables⟩
theorem atStart : AtStart classFile x code maxLocals ret World_1 tables_1 room_1 Calls_1 rest_1 Pre_1 launch0 p0 e0 about1 theMethod args0 below0 :=
  ⟨lists_1, trivial, launch0.admits_env _ _ _, launch0.least_env, fairChoices_fair.cas, fairChoices_fair.clock, w_frames, w_args, w_heap, w_applies, trivial, trivial, w_case⟩
end start1
theorem witness_1 : WitnessClaimed_1 := ⟨start1.p0, start1.e0, start1.about1, start1.theMethod, start1.args0, start1.below0, start1.atStart⟩
end Jvm.Pilot.@@N@@

import JvmDerived
import JvmDerived.Pilot.@@N@@Statement
import JvmDerived.Pilot.@@N@@Code
set_option linter.unusedVariables false
set_option linter.unusedSimpArgs false
namespace Jvm.RoadKit
open Sem ClassFile Op Lib Jvm.Stand Jvm.Free Jvm.LawKit
section New
variable {p : Program} {l : Launch} {e : Env} {R : Room} {s : State} {m : MethodId} {args : Array Value} {below : List Frame} {meth : Method} {c : Code} {T : State} {locs : List Loc} {cells slots : Nat}
theorem retI (X : Stand p l e R s m args below meth c T locs cells slots) (hx : p.tables.exec = Jvm.exec) {pc : Nat} {Ls : Array Slot} {z : Int32} {rest : List Value} (hret : meth.sig.returnType = some .int) (hd : decode c.code pc = .ok (.ireturn, 1)) {fs : List Frame}
    (hl : ∀ (f : JFrame) (acts : List Action), f.method = m → f.locked = none → f.entered = [] → (doReturn e (T.setTop f) acts (some (.int z))).1 = T.setFrames fs) : Steps p.tables e below (T.setTop (mkF m pc Ls (.int z :: rest))) (T.setFrames fs) :=
  retOut X hx (t := .int) hret rfl (Or.inl ⟨rfl, Or.inl rfl, z, rfl⟩) hd hl
end New
end Jvm.RoadKit
namespace Jvm.Pilot.@@N@@
open Jvm Jvm.ClassFile Sem Op Lib Jvm.Free Jvm.Stand Jvm.LawKit Jvm.RoadKit Bundle Jvm.Pilot.@@N@@.Jvm.D
/-- the run from A on ends, and K holds of its end -/
def own_Fin (p : Program) (e : Env) (below : List Frame) (K : Outcome → State → Prop) (A : State) : Prop := ∃ t o, Steps p.tables e below A t ∧ t.status = .running ∧ Ended t below o ∧ K o t
theorem own_st {p : Program} {e : Env} {below : List Frame} {K : Outcome → State → Prop} {A B : State} (st : ∀ t, Steps p.tables e below B t → Steps p.tables e below A t) (h : own_Fin p e below K B) : own_Fin p e below K A := by
  obtain ⟨t, o, h1, h2⟩ := h
  exact ⟨t, o, st t h1, h2⟩
theorem own_tr {p : Program} {e : Env} {below : List Frame} {K : Outcome → State → Prop} {A B : State} (st : Steps p.tables e below A B) (h : own_Fin p e below K B) : own_Fin p e below K A := by
  obtain ⟨t, o, h1, h2⟩ := h
  exact ⟨t, o, st.trans h1, h2⟩
/-- what a body leaves that writes nothing: it returns r, the heap as it was -/
def own_Q (h0 : Heap) (n0 : Nat) (r : Option Value) (v : Option Value) (h : Heap) (L : List Loc) : Prop := v = r ∧ Fr n0 L ∧ h = h0
theorem own_eqI {args : Array Value} {s : State} {t : Term} {k : Int32} (h : (Jvm.Cond.eq t (.int k)).value args s none s [] = some true) : t.eval args s none [] s = some (.int k) := by
  cases ht : t.eval args s none [] s with
  | none => simp [Cond.value, ht] at h
  | some x => cases x <;> simp [Cond.value, ht, Term.eval] at h ⊢; exact h
theorem own_fld {args : Array Value} {s : State} {t : Term} {a : Addr} {C n d : String} {k : Int32} (ht : t.eval args s none [] s = some (.ref a)) (h : (Jvm.Cond.eq (.field t C n d) (.int k)).value args s none s [] = some true) : Fld s s.heap a C n d (.int k) :=
  Fld.start (by rw [← fld_at ht]; exact own_eqI h)
theorem own_fldR {args : Array Value} {s : State} {t u : Term} {a b : Addr} {C n d : String} (ht : t.eval args s none [] s = some (.ref a)) (hu : u.eval args s none [] s = some (.ref b)) (h : (Jvm.Cond.eq (.field t C n d) u).value args s none s [] = some true) : Fld s s.heap a C n d (.ref b) := by
  refine Fld.start ?_
  rw [← fld_at ht]
  cases he : (Term.field t C n d).eval args s none [] s with
  | none => simp [Cond.value, he] at h
  | some x => cases x <;> simp [Cond.value, he, hu] at h ⊢; exact h
theorem own_differ {args : Array Value} {s : State} {t u : Term} {a b : Addr} (ht : t.eval args s none [] s = some (.ref a)) (hu : u.eval args s none [] s = some (.ref b)) (h : (Jvm.Cond.not (.eq t u)).value args s none s [] = some true) : a ≠ b := by
  have h1 := not_v h
  have h2 := gotF (eq_R ht hu rfl rfl) h1
  exact fun e => h2 (congrArg Value.ref e)
theorem own_pick {r : Int32} {k : Int} (h : r.toInt = k) : r = Int32.ofInt k := by rw [← h, Int32.ofInt_toInt]
def own_Pins (Z : State) (h0 : Heap) (w_MONEY w_COUNT w_YEARS w_RATE w_FLAG w_DATE w_TABLE w_CHOICE w_MONTH : Addr) : Prop := (Sta Z h0 "com/example/vestry/vestry/model/Kind" "MONEY" "Lcom/example/vestry/vestry/model/Kind;" (.ref w_MONEY)) ∧ (Exa Z h0 w_MONEY "com/example/vestry/vestry/model/Kind") ∧ (Sta Z h0 "com/example/vestry/vestry/model/Kind" "COUNT" "Lcom/example/vestry/vestry/model/Kind;" (.ref w_COUNT)) ∧ (Exa Z h0 w_COUNT "com/example/vestry/vestry/model/Kind") ∧ (Sta Z h0 "com/example/vestry/vestry/model/Kind" "YEARS" "Lcom/example/vestry/vestry/model/Kind;" (.ref w_YEARS)) ∧ (Exa Z h0 w_YEARS "com/example/vestry/vestry/model/Kind") ∧ (Sta Z h0 "com/example/vestry/vestry/model/Kind" "RATE" "Lcom/example/vestry/vestry/model/Kind;" (.ref w_RATE)) ∧ (Exa Z h0 w_RATE "com/example/vestry/vestry/model/Kind") ∧ (Sta Z h0 "com/example/vestry/vestry/model/Kind" "FLAG" "Lcom/example/vestry/vestry/model/Kind;" (.ref w_FLAG)) ∧ (Exa Z h0 w_FLAG "com/example/vestry/vestry/model/Kind") ∧ (Sta Z h0 "com/example/vestry/vestry/model/Kind" "DATE" "Lcom/example/vestry/vestry/model/Kind;" (.ref w_DATE)) ∧ (Exa Z h0 w_DATE "com/example/vestry/vestry/model/Kind") ∧ (Sta Z h0 "com/example/vestry/vestry/model/Kind" "TABLE" "Lcom/example/vestry/vestry/model/Kind;" (.ref w_TABLE)) ∧ (Exa Z h0 w_TABLE "com/example/vestry/vestry/model/Kind") ∧ (Sta Z h0 "com/example/vestry/vestry/model/Kind" "CHOICE" "Lcom/example/vestry/vestry/model/Kind;" (.ref w_CHOICE)) ∧ (Exa Z h0 w_CHOICE "com/example/vestry/vestry/model/Kind") ∧ (Sta Z h0 "com/example/vestry/vestry/model/Kind" "MONTH" "Lcom/example/vestry/vestry/model/Kind;" (.ref w_MONTH)) ∧ (Exa Z h0 w_MONTH "com/example/vestry/vestry/model/Kind") ∧ (Fld Z h0 w_COUNT "java/lang/Enum" "ordinal" "I" (.int 3)) ∧ (Fld Z h0 w_MONEY "java/lang/Enum" "ordinal" "I" (.int 0)) ∧ (Fld Z h0 w_YEARS "java/lang/Enum" "ordinal" "I" (.int 1)) ∧ (Fld Z h0 w_RATE "java/lang/Enum" "ordinal" "I" (.int 2)) ∧ (Fld Z h0 w_FLAG "java/lang/Enum" "ordinal" "I" (.int 7)) ∧ (Fld Z h0 w_DATE "java/lang/Enum" "ordinal" "I" (.int 4)) ∧ (Fld Z h0 w_TABLE "java/lang/Enum" "ordinal" "I" (.int 8)) ∧ (Fld Z h0 w_CHOICE "java/lang/Enum" "ordinal" "I" (.int 6)) ∧ (Fld Z h0 w_MONTH "java/lang/Enum" "ordinal" "I" (.int 5))
theorem own_mod9 (p : Int32) : (p &&& (2147483647 : Int32)) % (9 : Int32) = (0 : Int32) ∨ (p &&& (2147483647 : Int32)) % (9 : Int32) = (1 : Int32) ∨ (p &&& (2147483647 : Int32)) % (9 : Int32) = (2 : Int32) ∨ (p &&& (2147483647 : Int32)) % (9 : Int32) = (3 : Int32) ∨ (p &&& (2147483647 : Int32)) % (9 : Int32) = (4 : Int32) ∨ (p &&& (2147483647 : Int32)) % (9 : Int32) = (5 : Int32) ∨ (p &&& (2147483647 : Int32)) % (9 : Int32) = (6 : Int32) ∨ (p &&& (2147483647 : Int32)) % (9 : Int32) = (7 : Int32) ∨ (p &&& (2147483647 : Int32)) % (9 : Int32) = (8 : Int32) := by
  have h1 := c_and p (2147483647 : Int32) (by decide)
  have h2 := (c_irem (p &&& (2147483647 : Int32)) (9 : Int32) 9 rfl).1 h1.1
  generalize (p &&& (2147483647 : Int32)) % (9 : Int32) = r at h2 ⊢
  rcases (by omega : r.toInt = 0 ∨ r.toInt = 1 ∨ r.toInt = 2 ∨ r.toInt = 3 ∨ r.toInt = 4 ∨ r.toInt = 5 ∨ r.toInt = 6 ∨ r.toInt = 7 ∨ r.toInt = 8) with h | h | h | h | h | h | h | h | h
  · exact Or.inl (own_pick h)
  · exact Or.inr (Or.inl (own_pick h))
  · exact Or.inr (Or.inr (Or.inl (own_pick h)))
  · exact Or.inr (Or.inr (Or.inr (Or.inl (own_pick h))))
  · exact Or.inr (Or.inr (Or.inr (Or.inr (Or.inl (own_pick h)))))
  · exact Or.inr (Or.inr (Or.inr (Or.inr (Or.inr (Or.inl (own_pick h))))))
  · exact Or.inr (Or.inr (Or.inr (Or.inr (Or.inr (Or.inr (Or.inl (own_pick h)))))))
  · exact Or.inr (Or.inr (Or.inr (Or.inr (Or.inr (Or.inr (Or.inr (Or.inl (own_pick h))))))))
  · exact Or.inr (Or.inr (Or.inr (Or.inr (Or.inr (Or.inr (Or.inr (Or.inr ((own_pick h)))))))))
theorem d1_0 : decode method_2_code 0 = .ok (.iload_n 0, 1) := by decide +kernel
theorem d1_1 : decode method_2_code 1 = .ok (.ifCond .ne 7, 3) := by decide +kernel
theorem d1_4 : decode method_2_code 4 = .ok (.getstatic 7, 3) := by decide +kernel
theorem d1_7 : decode method_2_code 7 = .ok (.areturn, 1) := by decide +kernel
theorem ef_1_I (m : MethodId) (x0 : Int32) : entryFrame m #[(.int x0)] 1 = mkF m 0 #[.val (.int x0)] [] := by first | (simp [entryFrame, mkF, argsToLocals, Value.category]; done) | rfl
theorem pn_com_example_vestry_vestry_model_KindIsNumberPinLaw : plainName "com/example/vestry/vestry/model/KindIsNumberPinLaw" = true := by first | (simp [plainName, overriddenIn]; done) | decide +kernel
set_option maxRecDepth 65536 in
set_option maxHeartbeats 40000000 in
theorem rm1_0 (l : Launch) (Z : State) (a0 : Array Value) (hw : ∀ d ∈ tables_1, d.before a0 Z = true) (ws : List Jvm.Cond) (w_MONEY w_COUNT w_YEARS w_RATE w_FLAG w_DATE w_TABLE w_CHOICE w_MONTH : Addr) (h0 : Heap) (n0 : Nat) (PN : own_Pins Z h0 w_MONEY w_COUNT w_YEARS w_RATE w_FLAG w_DATE w_TABLE w_CHOICE w_MONTH) :
    MetFree l (⟨"com/example/vestry/vestry/model/KindIsNumberPinLaw", "pick", "(I)Lcom/example/vestry/vestry/model/Kind;"⟩ : MethodName) (head1 (Jvm.Cond.code (⟨"com/example/vestry/vestry/model/KindIsNumberPinLaw", "pick", "(I)Lcom/example/vestry/vestry/model/Kind;"⟩ : MethodName) method_2_code 1 (some (.object "com/example/vestry/vestry/model/Kind")) :: ws) ({ frames := 0, cells := 0, slots := 0, locals := 0 } : Room)) (fun a U => a = #[(.int (0 : Int32))] ∧ Z.Warmed39 U.vm ∧ U.heap = h0) (fun _ _ _ _ _ => True) (fun _ U o U' => ∃ v L, o = .returned v ∧ own_Q h0 n0 (some (.ref w_MONEY)) v U'.heap L ∧ FrameEnd U o U' L ({ frames := 0, cells := 0, slots := 0, locals := 0 } : Room).cells ({ frames := 0, cells := 0, slots := 0, locals := 0 } : Room).slots) := by
  obtain ⟨S_MONEY, E_MONEY, S_COUNT, E_COUNT, S_YEARS, E_YEARS, S_RATE, E_RATE, S_FLAG, E_FLAG, S_DATE, E_DATE, S_TABLE, E_TABLE, S_CHOICE, E_CHOICE, S_MONTH, E_MONTH, F_COUNT_ordinal, F_MONEY_ordinal, F_YEARS_ordinal, F_RATE_ordinal, F_FLAG_ordinal, F_DATE_ordinal, F_TABLE_ordinal, F_CHOICE_ordinal, F_MONTH_ordinal⟩ := PN
  refine MetFree.of_bodySF (plainFor_of_name pn_com_example_vestry_vestry_model_KindIsNumberPinLaw) hisR ?_
  intro p e s m args below meth c s₁ Bd hml0 hP hK
  obtain ⟨rfl, hZ, hh⟩ := hP
  have hx := Bd.exec
  have hby := Bd.bytes
  have hml : c.maxLocals = 1 := hml0
  have hown : s.vm.findClass "com/example/vestry/vestry/model/KindIsNumberPinLaw" = some m.cls := findClass_of_methodNamed Bd.named
  have X0 : Stand p l e ({ frames := 0, cells := 0, slots := 0, locals := 0 } : Room) s m #[(.int (0 : Int32))] below meth c s₁ [] 0 0 := Stand.of_body Bd
  have e0 : s₁.heap = h0 := by rw [← hh, Bd.state]; rfl
  have N0 := Fr.nil n0
  refine (?_ : own_Fin p e below _ _)
  refine own_st (fun t k => castTop (ef_1_I m (0 : Int32)) k) ?_
  show own_Fin p e below _ (s₁.setTop (mkF m 0 #[.val (.int (0 : Int32))] []))
  refine own_st (fun t k => XS.iloadN X0.here hx rfl (hb hby d1_0) rfl k) ?_
  show own_Fin p e below _ (s₁.setTop (mkF m 1 #[.val (.int (0 : Int32))] [(.int (0 : Int32))]))
  refine own_st (fun t k => XS.ifNo X0.here hx rfl (hb hby d1_1) rfl (by decide) k) ?_
  show own_Fin p e below _ (s₁.setTop (mkF m 4 #[.val (.int (0 : Int32))] []))
  obtain ⟨T1, X1, e1, st1⟩ := getS2 X0 hx hZ hown (host := "") (Or.inl (hw _ (List.mem_of_getElem? (i := 5) rfl))) Via.refl e0 S_MONEY (g := (mkF m 4 #[.val (.int (0 : Int32))] [])) rfl (hb hby d1_4)
  refine own_st st1 ?_
  show own_Fin p e below _ (T1.setTop (mkF m 7 #[.val (.int (0 : Int32))] [(.ref w_MONEY)]))
  obtain ⟨fs, hr, hrun, hended, hW, hsame⟩ := X1.leave (v := some (.ref w_MONEY)) (fun h => by rw [Bd.returns] at h; cases h)
  exact ⟨_, _, retOut X1 hx (t := (.object "com/example/vestry/vestry/model/Kind")) Bd.returns rfl (Or.inr (Or.inr (Or.inr (Or.inr ⟨rfl, rfl, rfl⟩)))) (hb hby d1_7) hr, hrun, hended, _, _, rfl, ⟨rfl, N0, e1⟩, ⟨_, rfl⟩, hW, hsame.mono (by decide) (by decide)⟩
theorem pd__I_Lcom_example_vestry_vestry_model_Kind_ : parseMethodDescriptor "(I)Lcom/example/vestry/vestry/model/Kind;" = some ⟨[.int], some (.object "com/example/vestry/vestry/model/Kind")⟩ := by decide +kernel
theorem d2_0 : decode prog_42_method_5_code 0 = .ok (.aload_n 0, 1) := by decide +kernel
theorem d2_1 : decode prog_42_method_5_code 1 = .ok (.getstatic 3, 3) := by decide +kernel
theorem d2_4 : decode prog_42_method_5_code 4 = .ok (.if_acmp .eq 24, 3) := by decide +kernel
theorem d2_28 : decode prog_42_method_5_code 28 = .ok (.iconst 1, 1) := by decide +kernel
theorem d2_29 : decode prog_42_method_5_code 29 = .ok (.goto 4, 3) := by decide +kernel
theorem d2_33 : decode prog_42_method_5_code 33 = .ok (.ireturn, 1) := by decide +kernel
theorem ef_2_R (m : MethodId) (x0 : Addr) : entryFrame m #[(.ref x0)] 1 = mkF m 0 #[.val (.ref x0)] [] := by first | (simp [entryFrame, mkF, argsToLocals, Value.category]; done) | rfl
theorem pn_com_example_vestry_vestry_model_Kind : plainName "com/example/vestry/vestry/model/Kind" = true := by first | (simp [plainName, overriddenIn]; done) | decide +kernel
set_option maxRecDepth 65536 in
set_option maxHeartbeats 40000000 in
theorem rm2_w_MONEY (l : Launch) (Z : State) (a0 : Array Value) (hw : ∀ d ∈ tables_1, d.before a0 Z = true) (ws : List Jvm.Cond) (w_MONEY w_COUNT w_YEARS w_RATE w_FLAG w_DATE w_TABLE w_CHOICE w_MONTH : Addr) (h0 : Heap) (n0 : Nat) (PN : own_Pins Z h0 w_MONEY w_COUNT w_YEARS w_RATE w_FLAG w_DATE w_TABLE w_CHOICE w_MONTH) :
    MetFree l (⟨"com/example/vestry/vestry/model/Kind", "isNumber", "()Z"⟩ : MethodName) (head1 (Jvm.Cond.code (⟨"com/example/vestry/vestry/model/Kind", "isNumber", "()Z"⟩ : MethodName) prog_42_method_5_code 1 (some .boolean) :: ws) ({ frames := 0, cells := 0, slots := 0, locals := 0 } : Room)) (fun a U => a = #[(.ref w_MONEY)] ∧ Z.Warmed39 U.vm ∧ U.heap = h0) (fun _ _ _ _ _ => True) (fun _ U o U' => ∃ v L, o = .returned v ∧ own_Q h0 n0 (some (.int (1 : Int32))) v U'.heap L ∧ FrameEnd U o U' L ({ frames := 0, cells := 0, slots := 0, locals := 0 } : Room).cells ({ frames := 0, cells := 0, slots := 0, locals := 0 } : Room).slots) := by
  obtain ⟨S_MONEY, E_MONEY, S_COUNT, E_COUNT, S_YEARS, E_YEARS, S_RATE, E_RATE, S_FLAG, E_FLAG, S_DATE, E_DATE, S_TABLE, E_TABLE, S_CHOICE, E_CHOICE, S_MONTH, E_MONTH, F_COUNT_ordinal, F_MONEY_ordinal, F_YEARS_ordinal, F_RATE_ordinal, F_FLAG_ordinal, F_DATE_ordinal, F_TABLE_ordinal, F_CHOICE_ordinal, F_MONTH_ordinal⟩ := PN
  refine MetFree.of_bodySF (plainFor_of_name pn_com_example_vestry_vestry_model_Kind) hisR ?_
  intro p e s m args below meth c s₁ Bd hml0 hP hK
  obtain ⟨rfl, hZ, hh⟩ := hP
  have hx := Bd.exec
  have hby := Bd.bytes
  have hml : c.maxLocals = 1 := hml0
  have hown : s.vm.findClass "com/example/vestry/vestry/model/Kind" = some m.cls := findClass_of_methodNamed Bd.named
  have X0 : Stand p l e ({ frames := 0, cells := 0, slots := 0, locals := 0 } : Room) s m #[(.ref w_MONEY)] below meth c s₁ [] 0 0 := Stand.of_body Bd
  have e0 : s₁.heap = h0 := by rw [← hh, Bd.state]; rfl
  have N0 := Fr.nil n0
  refine (?_ : own_Fin p e below _ _)
  refine own_st (fun t k => castTop (ef_2_R m w_MONEY) k) ?_
  show own_Fin p e below _ (s₁.setTop (mkF m 0 #[.val (.ref w_MONEY)] []))
  refine own_st (fun t k => XS.aloadN X0.here hx rfl (hb hby d2_0) rfl rfl k) ?_
  show own_Fin p e below _ (s₁.setTop (mkF m 1 #[.val (.ref w_MONEY)] [(.ref w_MONEY)]))
  obtain ⟨T1, X1, e1, st1⟩ := getS2 X0 hx hZ hown (host := "") (Or.inl (hw _ (List.mem_of_getElem? (i := 13) rfl))) Via.refl e0 S_MONEY (g := (mkF m 1 #[.val (.ref w_MONEY)] [(.ref w_MONEY)])) rfl (hb hby d2_1)
  refine own_st st1 ?_
  show own_Fin p e below _ (T1.setTop (mkF m 4 #[.val (.ref w_MONEY)] [(.ref w_MONEY), (.ref w_MONEY)]))
  refine own_st (fun t k => Jvm.RoadKit.acmp (g := (mkF m 4 #[.val (.ref w_MONEY)] [(.ref w_MONEY), (.ref w_MONEY)])) X1 hx rfl rfl rfl (pc0 := 4) (pc' := 28) (same := true) rfl (hb hby d2_4) rfl (decide_eq_true rfl) (by decide) (by decide) k) ?_
  show own_Fin p e below _ (T1.setTop (mkF m 28 #[.val (.ref w_MONEY)] []))
  refine own_st (fun t k => XS.iconst X1.here hx rfl (hb hby d2_28) k) ?_
  show own_Fin p e below _ (T1.setTop (mkF m 29 #[.val (.ref w_MONEY)] [(.int (1 : Int32))]))
  refine own_st (fun t k => XS.goto X1.here hx rfl (pc0 := 29) (pc' := 33) rfl (hb hby d2_29) (by decide) (by decide) k) ?_
  show own_Fin p e below _ (T1.setTop (mkF m 33 #[.val (.ref w_MONEY)] [(.int (1 : Int32))]))
  obtain ⟨fs, hr, hrun, hended, hW, hsame⟩ := X1.leave (v := some (.int (1 : Int32))) (fun h => by rw [Bd.returns] at h; cases h)
  exact ⟨_, _, retN X1 hx (t := .boolean) Bd.returns (by simp) (hb hby d2_33) hr, hrun, hended, _, _, rfl, ⟨rfl, N0, e1⟩, ⟨_, rfl⟩, hW, hsame.mono (by decide) (by decide)⟩
theorem pd___Z : parseMethodDescriptor "()Z" = some ⟨[], some .boolean⟩ := by decide +kernel
theorem ef_0_I (m : MethodId) (x0 : Int32) : entryFrame m #[(.int x0)] maxLocals = mkF m 0 #[.val (.int x0), .unset, .unset, .unset] [] := by first | (simp [entryFrame, mkF, argsToLocals, Value.category, maxLocals]; done) | rfl
set_option maxRecDepth 65536 in
set_option maxHeartbeats 40000000 in
theorem rm0_c0 (l : Launch) (Z : State) (a0 : Array Value) (hw : ∀ d ∈ tables_1, d.before a0 Z = true) (ws : List Jvm.Cond) (w_MONEY w_COUNT w_YEARS w_RATE w_FLAG w_DATE w_TABLE w_CHOICE w_MONTH : Addr) (p0 : Int32) (h0 : Heap) (n0 : Nat) (PN : own_Pins Z h0 w_MONEY w_COUNT w_YEARS w_RATE w_FLAG w_DATE w_TABLE w_CHOICE w_MONTH) (q0 : ((p0 &&& (2147483647 : Int32)) % (9 : Int32)) = (0 : Int32)) :
    MetFree l x (head1 (Jvm.Cond.code x code maxLocals ret :: ws) room_1) (fun a U => a = #[(.int p0)] ∧ Z.Warmed39 U.vm ∧ U.heap = h0) (fun _ _ _ _ _ => True) (fun _ U o U' => ∃ v L, o = .returned v ∧ own_Q h0 n0 (some (.int (1 : Int32))) v U'.heap L ∧ FrameEnd U o U' L room_1.cells room_1.slots) := by
  obtain ⟨S_MONEY, E_MONEY, S_COUNT, E_COUNT, S_YEARS, E_YEARS, S_RATE, E_RATE, S_FLAG, E_FLAG, S_DATE, E_DATE, S_TABLE, E_TABLE, S_CHOICE, E_CHOICE, S_MONTH, E_MONTH, F_COUNT_ordinal, F_MONEY_ordinal, F_YEARS_ordinal, F_RATE_ordinal, F_FLAG_ordinal, F_DATE_ordinal, F_TABLE_ordinal, F_CHOICE_ordinal, F_MONTH_ordinal⟩ := PN
  refine MetFree.of_bodySF (plainFor_of_name pn_com_example_vestry_vestry_model_KindIsNumberPinLaw) hisR ?_
  intro p e s m args below meth c s₁ Bd hml0 hP hK
  obtain ⟨rfl, hZ, hh⟩ := hP
  have hx := Bd.exec
  have hby := Bd.bytes
  have hml : c.maxLocals = 4 := hml0
  have hown : s.vm.findClass "com/example/vestry/vestry/model/KindIsNumberPinLaw" = some m.cls := findClass_of_methodNamed Bd.named
  have X0 : Stand p l e room_1 s m #[(.int p0)] below meth c s₁ [] 0 0 := Stand.of_body Bd
  have e0 : s₁.heap = h0 := by rw [← hh, Bd.state]; rfl
  have N0 := Fr.nil n0
  refine (?_ : own_Fin p e below _ _)
  refine own_st (fun t k => castTop (ef_0_I m p0) k) ?_
  show own_Fin p e below _ (s₁.setTop (mkF m 0 #[.val (.int p0), .unset, .unset, .unset] []))
  refine own_st (fun t k => XS.iloadN X0.here hx rfl (hb hby at_0) rfl k) ?_
  show own_Fin p e below _ (s₁.setTop (mkF m 1 #[.val (.int p0), .unset, .unset, .unset] [(.int p0)]))
  refine own_st (fun t k => X0.ldcI hx hown (mvT hZ (hw _ (List.mem_of_getElem? (i := 0) rfl))) rfl (hb hby at_1) k) ?_
  show own_Fin p e below _ (s₁.setTop (mkF m 3 #[.val (.int p0), .unset, .unset, .unset] [(.int (2147483647 : Int32)), (.int p0)]))
  refine own_st (fun t k => XS.iand X0.here hx rfl (hb hby at_3) rfl k) ?_
  show own_Fin p e below _ (s₁.setTop (mkF m 4 #[.val (.int p0), .unset, .unset, .unset] [(.int (p0 &&& (2147483647 : Int32)))]))
  refine own_st (fun t k => XS.bipush X0.here hx rfl (hb hby at_4) k) ?_
  show own_Fin p e below _ (s₁.setTop (mkF m 6 #[.val (.int p0), .unset, .unset, .unset] [(.int (9 : Int32)), (.int (p0 &&& (2147483647 : Int32)))]))
  refine own_st (fun t k => iremM X0 hx rfl (hb hby at_6) rfl (by decide) k) ?_
  show own_Fin p e below _ (s₁.setTop (mkF m 7 #[.val (.int p0), .unset, .unset, .unset] [(.int ((p0 &&& (2147483647 : Int32)) % (9 : Int32)))]))
  rw [q0]
  show own_Fin p e below _ (s₁.setTop (mkF m 7 #[.val (.int p0), .unset, .unset, .unset] [(.int (0 : Int32))]))
  refine own_st (fun t k => XS.istoreN X0.here hx rfl (hb hby at_7) rfl (l' := #[.val (.int p0), .val (.int (0 : Int32)), .unset, .unset]) rfl k) ?_
  show own_Fin p e below _ (s₁.setTop (mkF m 8 #[.val (.int p0), .val (.int (0 : Int32)), .unset, .unset] []))
  refine own_st (fun t k => XS.iloadN X0.here hx rfl (hb hby at_8) rfl k) ?_
  show own_Fin p e below _ (s₁.setTop (mkF m 9 #[.val (.int p0), .val (.int (0 : Int32)), .unset, .unset] [(.int (0 : Int32))]))
  obtain ⟨_, _, ⟨T1, L1, k1, n1⟩, -, X1, ⟨Lc1, hQ1, l1, y1, z1⟩, st1⟩ := Jvm.LawKit.callS X0 hx (y := (⟨"com/example/vestry/vestry/model/KindIsNumberPinLaw", "pick", "(I)Lcom/example/vestry/vestry/model/Kind;"⟩ : MethodName)) hown (mvT hZ (hw _ (List.mem_of_getElem? (i := 1) rfl))) (mvT hZ (hw _ (List.mem_of_getElem? (i := 2) rfl))) (mvT hZ (hw _ (List.mem_of_getElem? (i := 3) rfl))) (mvT hZ (hw _ (List.mem_of_getElem? (i := 4) rfl))) (by decide) (backOf (W := 0) (rm1_0 l Z a0 hw [] w_MONEY w_COUNT w_YEARS w_RATE w_FLAG w_DATE w_TABLE w_CHOICE w_MONTH h0 n0 (by exact ⟨S_MONEY, E_MONEY, S_COUNT, E_COUNT, S_YEARS, E_YEARS, S_RATE, E_RATE, S_FLAG, E_FLAG, S_DATE, E_DATE, S_TABLE, E_TABLE, S_CHOICE, E_CHOICE, S_MONTH, E_MONTH, F_COUNT_ordinal, F_MONEY_ordinal, F_YEARS_ordinal, F_RATE_ordinal, F_FLAG_ordinal, F_DATE_ordinal, F_TABLE_ordinal, F_CHOICE_ordinal, F_MONTH_ordinal⟩)) hZ (hw _ (List.mem_of_getElem? (i := 4) rfl)) (hw _ (List.mem_of_getElem? (i := 3) rfl)) (by decide) (by decide)) (g := (mkF m 9 #[.val (.int p0), .val (.int (0 : Int32)), .unset, .unset] [(.int (0 : Int32))])) rfl (by rw [hml]; rfl) (argsL := [(.int (0 : Int32))]) (rest := []) (lenOf pd__I_Lcom_example_vestry_vestry_model_Kind_ rfl) rfl (by show 2 * 0 + _ ≤ _; exact Nat.le_of_eq rfl) (hb hby at_9) (fun _ _ => ⟨rfl, e0, (by decide : 0 + 0 ≤ _), (by decide : 0 + 0 ≤ _)⟩)
  dsimp only [Pt.U, Pt.locs, Pt.cells, Pt.slots] at X1 l1 y1 z1 st1 hQ1
  subst l1 y1 z1
  obtain ⟨rfl, N1q, e1⟩ := hQ1
  have N1 := Fr.app N0 N1q
  refine own_st st1 ?_
  show own_Fin p e below _ (T1.setTop (mkF m 12 #[.val (.int p0), .val (.int (0 : Int32)), .unset, .unset] [(.ref w_MONEY)]))
  refine own_st (fun t k => XS.astoreN X1.here hx rfl (hb hby at_12) rfl rfl (l' := #[.val (.int p0), .val (.int (0 : Int32)), .val (.ref w_MONEY), .unset]) rfl k) ?_
  show own_Fin p e below _ (T1.setTop (mkF m 13 #[.val (.int p0), .val (.int (0 : Int32)), .val (.ref w_MONEY), .unset] []))
  refine own_st (fun t k => XS.iloadN X1.here hx rfl (hb hby at_13) rfl k) ?_
  show own_Fin p e below _ (T1.setTop (mkF m 14 #[.val (.int p0), .val (.int (0 : Int32)), .val (.ref w_MONEY), .unset] [(.int (0 : Int32))]))
  refine own_st (fun t k => XS.iconst X1.here hx rfl (hb hby at_14) k) ?_
  show own_Fin p e below _ (T1.setTop (mkF m 15 #[.val (.int p0), .val (.int (0 : Int32)), .val (.ref w_MONEY), .unset] [(.int (4 : Int32)), (.int (0 : Int32))]))
  refine own_st (fun t k => XS.icmpNo X1.here hx rfl (hb hby at_15) rfl (by decide) k) ?_
  show own_Fin p e below _ (T1.setTop (mkF m 18 #[.val (.int p0), .val (.int (0 : Int32)), .val (.ref w_MONEY), .unset] []))
  refine own_st (fun t k => XS.iconst X1.here hx rfl (hb hby at_18) k) ?_
  show own_Fin p e below _ (T1.setTop (mkF m 19 #[.val (.int p0), .val (.int (0 : Int32)), .val (.ref w_MONEY), .unset] [(.int (1 : Int32))]))
  refine own_st (fun t k => XS.goto X1.here hx rfl (pc0 := 19) (pc' := 23) rfl (hb hby at_19) (by decide) (by decide) k) ?_
  show own_Fin p e below _ (T1.setTop (mkF m 23 #[.val (.int p0), .val (.int (0 : Int32)), .val (.ref w_MONEY), .unset] [(.int (1 : Int32))]))
  refine own_st (fun t k => XS.istoreN X1.here hx rfl (hb hby at_23) rfl (l' := #[.val (.int p0), .val (.int (0 : Int32)), .val (.ref w_MONEY), .val (.int (1 : Int32))]) rfl k) ?_
  show own_Fin p e below _ (T1.setTop (mkF m 24 #[.val (.int p0), .val (.int (0 : Int32)), .val (.ref w_MONEY), .val (.int (1 : Int32))] []))
  refine own_st (fun t k => XS.aloadN X1.here hx rfl (hb hby at_24) rfl rfl k) ?_
  show own_Fin p e below _ (T1.setTop (mkF m 25 #[.val (.int p0), .val (.int (0 : Int32)), .val (.ref w_MONEY), .val (.int (1 : Int32))] [(.ref w_MONEY)]))
  obtain ⟨cq2, kq2, q2a, q2b, q2c⟩ := isOf hZ e1 E_MONEY
  obtain ⟨_, _, ⟨T2, L2, k2, n2⟩, -, X2, ⟨Lc2, hQ2, l2, y2, z2⟩, st2⟩ := X1.virtualBack hx (y := (⟨"com/example/vestry/vestry/model/Kind", "isNumber", "()Z"⟩ : MethodName)) (z := (⟨"com/example/vestry/vestry/model/Kind", "isNumber", "()Z"⟩ : MethodName)) hown (mvT hZ (hw _ (List.mem_of_getElem? (i := 8) rfl))) (mvT hZ (hw _ (List.mem_of_getElem? (i := 9) rfl))) (notFace_of_selects (args := #[]) (mvT hZ (hw _ (List.mem_of_getElem? (i := 11) rfl)))) (mvT hZ (hw _ (List.mem_of_getElem? (i := 11) rfl))) (mvT hZ (hw _ (List.mem_of_getElem? (i := 10) rfl))) (by decide) (backOf (W := 0) (rm2_w_MONEY l Z a0 hw [] w_MONEY w_COUNT w_YEARS w_RATE w_FLAG w_DATE w_TABLE w_CHOICE w_MONTH h0 n0 (by exact ⟨S_MONEY, E_MONEY, S_COUNT, E_COUNT, S_YEARS, E_YEARS, S_RATE, E_RATE, S_FLAG, E_FLAG, S_DATE, E_DATE, S_TABLE, E_TABLE, S_CHOICE, E_CHOICE, S_MONTH, E_MONTH, F_COUNT_ordinal, F_MONEY_ordinal, F_YEARS_ordinal, F_RATE_ordinal, F_FLAG_ordinal, F_DATE_ordinal, F_TABLE_ordinal, F_CHOICE_ordinal, F_MONTH_ordinal⟩)) hZ (hw _ (List.mem_of_getElem? (i := 12) rfl)) (hw _ (List.mem_of_getElem? (i := 6) rfl)) (by decide) (by decide)) q2a q2c (g := (mkF m 25 #[.val (.int p0), .val (.int (0 : Int32)), .val (.ref w_MONEY), .val (.int (1 : Int32))] [(.ref w_MONEY)])) rfl (by rw [hml]; rfl) (Steps.refl _) (argsL := []) (rest := []) (lenOf pd___Z rfl) rfl (by show 2 * 0 + _ ≤ _; exact Nat.le_of_eq rfl) (hb hby at_25) (fun _ _ => ⟨rfl, e1, (by decide : 0 + 0 ≤ _), (by decide : 0 + 0 ≤ _)⟩)
  dsimp only [Pt.U, Pt.locs, Pt.cells, Pt.slots] at X2 l2 y2 z2 st2 hQ2
  subst l2 y2 z2
  obtain ⟨rfl, N2q, e2⟩ := hQ2
  have N2 := Fr.app N1 N2q
  refine own_tr st2 ?_
  show own_Fin p e below _ (T2.setTop (mkF m 28 #[.val (.int p0), .val (.int (0 : Int32)), .val (.ref w_MONEY), .val (.int (1 : Int32))] [(.int (1 : Int32))]))
  refine own_st (fun t k => XS.iloadN X2.here hx rfl (hb hby at_28) rfl k) ?_
  show own_Fin p e below _ (T2.setTop (mkF m 29 #[.val (.int p0), .val (.int (0 : Int32)), .val (.ref w_MONEY), .val (.int (1 : Int32))] [(.int (1 : Int32)), (.int (1 : Int32))]))
  refine own_st (fun t k => XS.icmpNo X2.here hx rfl (hb hby at_29) rfl (by decide) k) ?_
  show own_Fin p e below _ (T2.setTop (mkF m 32 #[.val (.int p0), .val (.int (0 : Int32)), .val (.ref w_MONEY), .val (.int (1 : Int32))] []))
  refine own_st (fun t k => XS.iconst X2.here hx rfl (hb hby at_32) k) ?_
  show own_Fin p e below _ (T2.setTop (mkF m 33 #[.val (.int p0), .val (.int (0 : Int32)), .val (.ref w_MONEY), .val (.int (1 : Int32))] [(.int (1 : Int32))]))
  refine own_st (fun t k => XS.goto X2.here hx rfl (pc0 := 33) (pc' := 37) rfl (hb hby at_33) (by decide) (by decide) k) ?_
  show own_Fin p e below _ (T2.setTop (mkF m 37 #[.val (.int p0), .val (.int (0 : Int32)), .val (.ref w_MONEY), .val (.int (1 : Int32))] [(.int (1 : Int32))]))
  obtain ⟨fs, hr, hrun, hended, hW, hsame⟩ := X2.leave (v := some (.int (1 : Int32))) (fun h => by rw [Bd.returns] at h; cases h)
  exact ⟨_, _, retN X2 hx (t := .boolean) Bd.returns (by simp) (hb hby at_37) hr, hrun, hended, _, _, rfl, ⟨rfl, N2, e2⟩, ⟨_, rfl⟩, hW, hsame.mono (by decide) (by decide)⟩
theorem d1_8 : decode method_2_code 8 = .ok (.iload_n 0, 1) := by decide +kernel
theorem d1_9 : decode method_2_code 9 = .ok (.iconst 1, 1) := by decide +kernel
theorem d1_10 : decode method_2_code 10 = .ok (.if_icmp .ne 7, 3) := by decide +kernel
theorem d1_13 : decode method_2_code 13 = .ok (.getstatic 13, 3) := by decide +kernel
theorem d1_16 : decode method_2_code 16 = .ok (.areturn, 1) := by decide +kernel
set_option maxRecDepth 65536 in
set_option maxHeartbeats 40000000 in
theorem rm1_1 (l : Launch) (Z : State) (a0 : Array Value) (hw : ∀ d ∈ tables_1, d.before a0 Z = true) (ws : List Jvm.Cond) (w_MONEY w_COUNT w_YEARS w_RATE w_FLAG w_DATE w_TABLE w_CHOICE w_MONTH : Addr) (h0 : Heap) (n0 : Nat) (PN : own_Pins Z h0 w_MONEY w_COUNT w_YEARS w_RATE w_FLAG w_DATE w_TABLE w_CHOICE w_MONTH) :
    MetFree l (⟨"com/example/vestry/vestry/model/KindIsNumberPinLaw", "pick", "(I)Lcom/example/vestry/vestry/model/Kind;"⟩ : MethodName) (head1 (Jvm.Cond.code (⟨"com/example/vestry/vestry/model/KindIsNumberPinLaw", "pick", "(I)Lcom/example/vestry/vestry/model/Kind;"⟩ : MethodName) method_2_code 1 (some (.object "com/example/vestry/vestry/model/Kind")) :: ws) ({ frames := 0, cells := 0, slots := 0, locals := 0 } : Room)) (fun a U => a = #[(.int (1 : Int32))] ∧ Z.Warmed39 U.vm ∧ U.heap = h0) (fun _ _ _ _ _ => True) (fun _ U o U' => ∃ v L, o = .returned v ∧ own_Q h0 n0 (some (.ref w_YEARS)) v U'.heap L ∧ FrameEnd U o U' L ({ frames := 0, cells := 0, slots := 0, locals := 0 } : Room).cells ({ frames := 0, cells := 0, slots := 0, locals := 0 } : Room).slots) := by
  obtain ⟨S_MONEY, E_MONEY, S_COUNT, E_COUNT, S_YEARS, E_YEARS, S_RATE, E_RATE, S_FLAG, E_FLAG, S_DATE, E_DATE, S_TABLE, E_TABLE, S_CHOICE, E_CHOICE, S_MONTH, E_MONTH, F_COUNT_ordinal, F_MONEY_ordinal, F_YEARS_ordinal, F_RATE_ordinal, F_FLAG_ordinal, F_DATE_ordinal, F_TABLE_ordinal, F_CHOICE_ordinal, F_MONTH_ordinal⟩ := PN
  refine MetFree.of_bodySF (plainFor_of_name pn_com_example_vestry_vestry_model_KindIsNumberPinLaw) hisR ?_
  intro p e s m args below meth c s₁ Bd hml0 hP hK
  obtain ⟨rfl, hZ, hh⟩ := hP
  have hx := Bd.exec
  have hby := Bd.bytes
  have hml : c.maxLocals = 1 := hml0
  have hown : s.vm.findClass "com/example/vestry/vestry/model/KindIsNumberPinLaw" = some m.cls := findClass_of_methodNamed Bd.named
  have X0 : Stand p l e ({ frames := 0, cells := 0, slots := 0, locals := 0 } : Room) s m #[(.int (1 : Int32))] below meth c s₁ [] 0 0 := Stand.of_body Bd
  have e0 : s₁.heap = h0 := by rw [← hh, Bd.state]; rfl
  have N0 := Fr.nil n0
  refine (?_ : own_Fin p e below _ _)
  refine own_st (fun t k => castTop (ef_1_I m (1 : Int32)) k) ?_
  show own_Fin p e below _ (s₁.setTop (mkF m 0 #[.val (.int (1 : Int32))] []))
  refine own_st (fun t k => XS.iloadN X0.here hx rfl (hb hby d1_0) rfl k) ?_
  show own_Fin p e below _ (s₁.setTop (mkF m 1 #[.val (.int (1 : Int32))] [(.int (1 : Int32))]))
  refine own_st (fun t k => XS.ifYes X0.here hx rfl (pc0 := 1) (pc' := 8) rfl (hb hby d1_1) rfl (by decide) (by decide) (by decide) k) ?_
  show own_Fin p e below _ (s₁.setTop (mkF m 8 #[.val (.int (1 : Int32))] []))
  refine own_st (fun t k => XS.iloadN X0.here hx rfl (hb hby d1_8) rfl k) ?_
  show own_Fin p e below _ (s₁.setTop (mkF m 9 #[.val (.int (1 : Int32))] [(.int (1 : Int32))]))
  refine own_st (fun t k => XS.iconst X0.here hx rfl (hb hby d1_9) k) ?_
  show own_Fin p e below _ (s₁.setTop (mkF m 10 #[.val (.int (1 : Int32))] [(.int (1 : Int32)), (.int (1 : Int32))]))
  refine own_st (fun t k => XS.icmpNo X0.here hx rfl (hb hby d1_10) rfl (by decide) k) ?_
  show own_Fin p e below _ (s₁.setTop (mkF m 13 #[.val (.int (1 : Int32))] []))
  obtain ⟨T1, X1, e1, st1⟩ := getS2 X0 hx hZ hown (host := "") (Or.inl (hw _ (List.mem_of_getElem? (i := 22) rfl))) Via.refl e0 S_YEARS (g := (mkF m 13 #[.val (.int (1 : Int32))] [])) rfl (hb hby d1_13)
  refine own_st st1 ?_
  show own_Fin p e below _ (T1.setTop (mkF m 16 #[.val (.int (1 : Int32))] [(.ref w_YEARS)]))
  obtain ⟨fs, hr, hrun, hended, hW, hsame⟩ := X1.leave (v := some (.ref w_YEARS)) (fun h => by rw [Bd.returns] at h; cases h)
  exact ⟨_, _, retOut X1 hx (t := (.object "com/example/vestry/vestry/model/Kind")) Bd.returns rfl (Or.inr (Or.inr (Or.inr (Or.inr ⟨rfl, rfl, rfl⟩)))) (hb hby d1_16) hr, hrun, hended, _, _, rfl, ⟨rfl, N0, e1⟩, ⟨_, rfl⟩, hW, hsame.mono (by decide) (by decide)⟩
theorem d2_7 : decode prog_42_method_5_code 7 = .ok (.aload_n 0, 1) := by decide +kernel
theorem d2_8 : decode prog_42_method_5_code 8 = .ok (.getstatic 7, 3) := by decide +kernel
theorem d2_11 : decode prog_42_method_5_code 11 = .ok (.if_acmp .eq 17, 3) := by decide +kernel
set_option maxRecDepth 65536 in
set_option maxHeartbeats 40000000 in
theorem rm2_w_YEARS (l : Launch) (Z : State) (a0 : Array Value) (hw : ∀ d ∈ tables_1, d.before a0 Z = true) (ws : List Jvm.Cond) (w_MONEY w_COUNT w_YEARS w_RATE w_FLAG w_DATE w_TABLE w_CHOICE w_MONTH : Addr) (h0 : Heap) (n0 : Nat) (PN : own_Pins Z h0 w_MONEY w_COUNT w_YEARS w_RATE w_FLAG w_DATE w_TABLE w_CHOICE w_MONTH) :
    MetFree l (⟨"com/example/vestry/vestry/model/Kind", "isNumber", "()Z"⟩ : MethodName) (head1 (Jvm.Cond.code (⟨"com/example/vestry/vestry/model/Kind", "isNumber", "()Z"⟩ : MethodName) prog_42_method_5_code 1 (some .boolean) :: ws) ({ frames := 0, cells := 0, slots := 0, locals := 0 } : Room)) (fun a U => a = #[(.ref w_YEARS)] ∧ Z.Warmed39 U.vm ∧ U.heap = h0) (fun _ _ _ _ _ => True) (fun _ U o U' => ∃ v L, o = .returned v ∧ own_Q h0 n0 (some (.int (1 : Int32))) v U'.heap L ∧ FrameEnd U o U' L ({ frames := 0, cells := 0, slots := 0, locals := 0 } : Room).cells ({ frames := 0, cells := 0, slots := 0, locals := 0 } : Room).slots) := by
  obtain ⟨S_MONEY, E_MONEY, S_COUNT, E_COUNT, S_YEARS, E_YEARS, S_RATE, E_RATE, S_FLAG, E_FLAG, S_DATE, E_DATE, S_TABLE, E_TABLE, S_CHOICE, E_CHOICE, S_MONTH, E_MONTH, F_COUNT_ordinal, F_MONEY_ordinal, F_YEARS_ordinal, F_RATE_ordinal, F_FLAG_ordinal, F_DATE_ordinal, F_TABLE_ordinal, F_CHOICE_ordinal, F_MONTH_ordinal⟩ := PN
  refine MetFree.of_bodySF (plainFor_of_name pn_com_example_vestry_vestry_model_Kind) hisR ?_
  intro p e s m args below meth c s₁ Bd hml0 hP hK
  obtain ⟨rfl, hZ, hh⟩ := hP
  have hx := Bd.exec
  have hby := Bd.bytes
  have hml : c.maxLocals = 1 := hml0
  have hown : s.vm.findClass "com/example/vestry/vestry/model/Kind" = some m.cls := findClass_of_methodNamed Bd.named
  have X0 : Stand p l e ({ frames := 0, cells := 0, slots := 0, locals := 0 } : Room) s m #[(.ref w_YEARS)] below meth c s₁ [] 0 0 := Stand.of_body Bd
  have e0 : s₁.heap = h0 := by rw [← hh, Bd.state]; rfl
  have N0 := Fr.nil n0
  refine (?_ : own_Fin p e below _ _)
  refine own_st (fun t k => castTop (ef_2_R m w_YEARS) k) ?_
  show own_Fin p e below _ (s₁.setTop (mkF m 0 #[.val (.ref w_YEARS)] []))
  refine own_st (fun t k => XS.aloadN X0.here hx rfl (hb hby d2_0) rfl rfl k) ?_
  show own_Fin p e below _ (s₁.setTop (mkF m 1 #[.val (.ref w_YEARS)] [(.ref w_YEARS)]))
  obtain ⟨T1, X1, e1, st1⟩ := getS2 X0 hx hZ hown (host := "") (Or.inl (hw _ (List.mem_of_getElem? (i := 13) rfl))) Via.refl e0 S_MONEY (g := (mkF m 1 #[.val (.ref w_YEARS)] [(.ref w_YEARS)])) rfl (hb hby d2_1)
  refine own_st st1 ?_
  show own_Fin p e below _ (T1.setTop (mkF m 4 #[.val (.ref w_YEARS)] [(.ref w_MONEY), (.ref w_YEARS)]))
  refine own_st (fun t k => Jvm.RoadKit.acmp (g := (mkF m 4 #[.val (.ref w_YEARS)] [(.ref w_MONEY), (.ref w_YEARS)])) X1 hx rfl rfl rfl (pc0 := 4) (pc' := 7) (same := false) rfl (hb hby d2_4) rfl (decide_eq_false fun q => (Fld.ne F_YEARS_ordinal F_MONEY_ordinal (by simp)) (Value.ref.inj q)) (by decide) (by decide) k) ?_
  show own_Fin p e below _ (T1.setTop (mkF m 7 #[.val (.ref w_YEARS)] []))
  refine own_st (fun t k => XS.aloadN X1.here hx rfl (hb hby d2_7) rfl rfl k) ?_
  show own_Fin p e below _ (T1.setTop (mkF m 8 #[.val (.ref w_YEARS)] [(.ref w_YEARS)]))
  obtain ⟨T2, X2, e2, st2⟩ := getS2 X1 hx hZ hown (host := "") (Or.inl (hw _ (List.mem_of_getElem? (i := 16) rfl))) Via.refl e1 S_YEARS (g := (mkF m 8 #[.val (.ref w_YEARS)] [(.ref w_YEARS)])) rfl (hb hby d2_8)
  refine own_st st2 ?_
  show own_Fin p e below _ (T2.setTop (mkF m 11 #[.val (.ref w_YEARS)] [(.ref w_YEARS), (.ref w_YEARS)]))
  refine own_st (fun t k => Jvm.RoadKit.acmp (g := (mkF m 11 #[.val (.ref w_YEARS)] [(.ref w_YEARS), (.ref w_YEARS)])) X2 hx rfl rfl rfl (pc0 := 11) (pc' := 28) (same := true) rfl (hb hby d2_11) rfl (decide_eq_true rfl) (by decide) (by decide) k) ?_
  show own_Fin p e below _ (T2.setTop (mkF m 28 #[.val (.ref w_YEARS)] []))
  refine own_st (fun t k => XS.iconst X2.here hx rfl (hb hby d2_28) k) ?_
  show own_Fin p e below _ (T2.setTop (mkF m 29 #[.val (.ref w_YEARS)] [(.int (1 : Int32))]))
  refine own_st (fun t k => XS.goto X2.here hx rfl (pc0 := 29) (pc' := 33) rfl (hb hby d2_29) (by decide) (by decide) k) ?_
  show own_Fin p e below _ (T2.setTop (mkF m 33 #[.val (.ref w_YEARS)] [(.int (1 : Int32))]))
  obtain ⟨fs, hr, hrun, hended, hW, hsame⟩ := X2.leave (v := some (.int (1 : Int32))) (fun h => by rw [Bd.returns] at h; cases h)
  exact ⟨_, _, retN X2 hx (t := .boolean) Bd.returns (by simp) (hb hby d2_33) hr, hrun, hended, _, _, rfl, ⟨rfl, N0, e2⟩, ⟨_, rfl⟩, hW, hsame.mono (by decide) (by decide)⟩
set_option maxRecDepth 65536 in
set_option maxHeartbeats 40000000 in
theorem rm0_c1 (l : Launch) (Z : State) (a0 : Array Value) (hw : ∀ d ∈ tables_1, d.before a0 Z = true) (ws : List Jvm.Cond) (w_MONEY w_COUNT w_YEARS w_RATE w_FLAG w_DATE w_TABLE w_CHOICE w_MONTH : Addr) (p0 : Int32) (h0 : Heap) (n0 : Nat) (PN : own_Pins Z h0 w_MONEY w_COUNT w_YEARS w_RATE w_FLAG w_DATE w_TABLE w_CHOICE w_MONTH) (q0 : ((p0 &&& (2147483647 : Int32)) % (9 : Int32)) = (1 : Int32)) :
    MetFree l x (head1 (Jvm.Cond.code x code maxLocals ret :: ws) room_1) (fun a U => a = #[(.int p0)] ∧ Z.Warmed39 U.vm ∧ U.heap = h0) (fun _ _ _ _ _ => True) (fun _ U o U' => ∃ v L, o = .returned v ∧ own_Q h0 n0 (some (.int (1 : Int32))) v U'.heap L ∧ FrameEnd U o U' L room_1.cells room_1.slots) := by
  obtain ⟨S_MONEY, E_MONEY, S_COUNT, E_COUNT, S_YEARS, E_YEARS, S_RATE, E_RATE, S_FLAG, E_FLAG, S_DATE, E_DATE, S_TABLE, E_TABLE, S_CHOICE, E_CHOICE, S_MONTH, E_MONTH, F_COUNT_ordinal, F_MONEY_ordinal, F_YEARS_ordinal, F_RATE_ordinal, F_FLAG_ordinal, F_DATE_ordinal, F_TABLE_ordinal, F_CHOICE_ordinal, F_MONTH_ordinal⟩ := PN
  refine MetFree.of_bodySF (plainFor_of_name pn_com_example_vestry_vestry_model_KindIsNumberPinLaw) hisR ?_
  intro p e s m args below meth c s₁ Bd hml0 hP hK
  obtain ⟨rfl, hZ, hh⟩ := hP
  have hx := Bd.exec
  have hby := Bd.bytes
  have hml : c.maxLocals = 4 := hml0
  have hown : s.vm.findClass "com/example/vestry/vestry/model/KindIsNumberPinLaw" = some m.cls := findClass_of_methodNamed Bd.named
  have X0 : Stand p l e room_1 s m #[(.int p0)] below meth c s₁ [] 0 0 := Stand.of_body Bd
  have e0 : s₁.heap = h0 := by rw [← hh, Bd.state]; rfl
  have N0 := Fr.nil n0
  refine (?_ : own_Fin p e below _ _)
  refine own_st (fun t k => castTop (ef_0_I m p0) k) ?_
  show own_Fin p e below _ (s₁.setTop (mkF m 0 #[.val (.int p0), .unset, .unset, .unset] []))
  refine own_st (fun t k => XS.iloadN X0.here hx rfl (hb hby at_0) rfl k) ?_
  show own_Fin p e below _ (s₁.setTop (mkF m 1 #[.val (.int p0), .unset, .unset, .unset] [(.int p0)]))
  refine own_st (fun t k => X0.ldcI hx hown (mvT hZ (hw _ (List.mem_of_getElem? (i := 0) rfl))) rfl (hb hby at_1) k) ?_
  show own_Fin p e below _ (s₁.setTop (mkF m 3 #[.val (.int p0), .unset, .unset, .unset] [(.int (2147483647 : Int32)), (.int p0)]))
  refine own_st (fun t k => XS.iand X0.here hx rfl (hb hby at_3) rfl k) ?_
  show own_Fin p e below _ (s₁.setTop (mkF m 4 #[.val (.int p0), .unset, .unset, .unset] [(.int (p0 &&& (2147483647 : Int32)))]))
  refine own_st (fun t k => XS.bipush X0.here hx rfl (hb hby at_4) k) ?_
  show own_Fin p e below _ (s₁.setTop (mkF m 6 #[.val (.int p0), .unset, .unset, .unset] [(.int (9 : Int32)), (.int (p0 &&& (2147483647 : Int32)))]))
  refine own_st (fun t k => iremM X0 hx rfl (hb hby at_6) rfl (by decide) k) ?_
  show own_Fin p e below _ (s₁.setTop (mkF m 7 #[.val (.int p0), .unset, .unset, .unset] [(.int ((p0 &&& (2147483647 : Int32)) % (9 : Int32)))]))
  rw [q0]
  show own_Fin p e below _ (s₁.setTop (mkF m 7 #[.val (.int p0), .unset, .unset, .unset] [(.int (1 : Int32))]))
  refine own_st (fun t k => XS.istoreN X0.here hx rfl (hb hby at_7) rfl (l' := #[.val (.int p0), .val (.int (1 : Int32)), .unset, .unset]) rfl k) ?_
  show own_Fin p e below _ (s₁.setTop (mkF m 8 #[.val (.int p0), .val (.int (1 : Int32)), .unset, .unset] []))
  refine own_st (fun t k => XS.iloadN X0.here hx rfl (hb hby at_8) rfl k) ?_
  show own_Fin p e below _ (s₁.setTop (mkF m 9 #[.val (.int p0), .val (.int (1 : Int32)), .unset, .unset] [(.int (1 : Int32))]))
  obtain ⟨_, _, ⟨T1, L1, k1, n1⟩, -, X1, ⟨Lc1, hQ1, l1, y1, z1⟩, st1⟩ := Jvm.LawKit.callS X0 hx (y := (⟨"com/example/vestry/vestry/model/KindIsNumberPinLaw", "pick", "(I)Lcom/example/vestry/vestry/model/Kind;"⟩ : MethodName)) hown (mvT hZ (hw _ (List.mem_of_getElem? (i := 1) rfl))) (mvT hZ (hw _ (List.mem_of_getElem? (i := 2) rfl))) (mvT hZ (hw _ (List.mem_of_getElem? (i := 3) rfl))) (mvT hZ (hw _ (List.mem_of_getElem? (i := 4) rfl))) (by decide) (backOf (W := 0) (rm1_1 l Z a0 hw [] w_MONEY w_COUNT w_YEARS w_RATE w_FLAG w_DATE w_TABLE w_CHOICE w_MONTH h0 n0 (by exact ⟨S_MONEY, E_MONEY, S_COUNT, E_COUNT, S_YEARS, E_YEARS, S_RATE, E_RATE, S_FLAG, E_FLAG, S_DATE, E_DATE, S_TABLE, E_TABLE, S_CHOICE, E_CHOICE, S_MONTH, E_MONTH, F_COUNT_ordinal, F_MONEY_ordinal, F_YEARS_ordinal, F_RATE_ordinal, F_FLAG_ordinal, F_DATE_ordinal, F_TABLE_ordinal, F_CHOICE_ordinal, F_MONTH_ordinal⟩)) hZ (hw _ (List.mem_of_getElem? (i := 4) rfl)) (hw _ (List.mem_of_getElem? (i := 3) rfl)) (by decide) (by decide)) (g := (mkF m 9 #[.val (.int p0), .val (.int (1 : Int32)), .unset, .unset] [(.int (1 : Int32))])) rfl (by rw [hml]; rfl) (argsL := [(.int (1 : Int32))]) (rest := []) (lenOf pd__I_Lcom_example_vestry_vestry_model_Kind_ rfl) rfl (by show 2 * 0 + _ ≤ _; exact Nat.le_of_eq rfl) (hb hby at_9) (fun _ _ => ⟨rfl, e0, (by decide : 0 + 0 ≤ _), (by decide : 0 + 0 ≤ _)⟩)
  dsimp only [Pt.U, Pt.locs, Pt.cells, Pt.slots] at X1 l1 y1 z1 st1 hQ1
  subst l1 y1 z1
  obtain ⟨rfl, N1q, e1⟩ := hQ1
  have N1 := Fr.app N0 N1q
  refine own_st st1 ?_
  show own_Fin p e below _ (T1.setTop (mkF m 12 #[.val (.int p0), .val (.int (1 : Int32)), .unset, .unset] [(.ref w_YEARS)]))
  refine own_st (fun t k => XS.astoreN X1.here hx rfl (hb hby at_12) rfl rfl (l' := #[.val (.int p0), .val (.int (1 : Int32)), .val (.ref w_YEARS), .unset]) rfl k) ?_
  show own_Fin p e below _ (T1.setTop (mkF m 13 #[.val (.int p0), .val (.int (1 : Int32)), .val (.ref w_YEARS), .unset] []))
  refine own_st (fun t k => XS.iloadN X1.here hx rfl (hb hby at_13) rfl k) ?_
  show own_Fin p e below _ (T1.setTop (mkF m 14 #[.val (.int p0), .val (.int (1 : Int32)), .val (.ref w_YEARS), .unset] [(.int (1 : Int32))]))
  refine own_st (fun t k => XS.iconst X1.here hx rfl (hb hby at_14) k) ?_
  show own_Fin p e below _ (T1.setTop (mkF m 15 #[.val (.int p0), .val (.int (1 : Int32)), .val (.ref w_YEARS), .unset] [(.int (4 : Int32)), (.int (1 : Int32))]))
  refine own_st (fun t k => XS.icmpNo X1.here hx rfl (hb hby at_15) rfl (by decide) k) ?_
  show own_Fin p e below _ (T1.setTop (mkF m 18 #[.val (.int p0), .val (.int (1 : Int32)), .val (.ref w_YEARS), .unset] []))
  refine own_st (fun t k => XS.iconst X1.here hx rfl (hb hby at_18) k) ?_
  show own_Fin p e below _ (T1.setTop (mkF m 19 #[.val (.int p0), .val (.int (1 : Int32)), .val (.ref w_YEARS), .unset] [(.int (1 : Int32))]))
  refine own_st (fun t k => XS.goto X1.here hx rfl (pc0 := 19) (pc' := 23) rfl (hb hby at_19) (by decide) (by decide) k) ?_
  show own_Fin p e below _ (T1.setTop (mkF m 23 #[.val (.int p0), .val (.int (1 : Int32)), .val (.ref w_YEARS), .unset] [(.int (1 : Int32))]))
  refine own_st (fun t k => XS.istoreN X1.here hx rfl (hb hby at_23) rfl (l' := #[.val (.int p0), .val (.int (1 : Int32)), .val (.ref w_YEARS), .val (.int (1 : Int32))]) rfl k) ?_
  show own_Fin p e below _ (T1.setTop (mkF m 24 #[.val (.int p0), .val (.int (1 : Int32)), .val (.ref w_YEARS), .val (.int (1 : Int32))] []))
  refine own_st (fun t k => XS.aloadN X1.here hx rfl (hb hby at_24) rfl rfl k) ?_
  show own_Fin p e below _ (T1.setTop (mkF m 25 #[.val (.int p0), .val (.int (1 : Int32)), .val (.ref w_YEARS), .val (.int (1 : Int32))] [(.ref w_YEARS)]))
  obtain ⟨cq2, kq2, q2a, q2b, q2c⟩ := isOf hZ e1 E_YEARS
  obtain ⟨_, _, ⟨T2, L2, k2, n2⟩, -, X2, ⟨Lc2, hQ2, l2, y2, z2⟩, st2⟩ := X1.virtualBack hx (y := (⟨"com/example/vestry/vestry/model/Kind", "isNumber", "()Z"⟩ : MethodName)) (z := (⟨"com/example/vestry/vestry/model/Kind", "isNumber", "()Z"⟩ : MethodName)) hown (mvT hZ (hw _ (List.mem_of_getElem? (i := 8) rfl))) (mvT hZ (hw _ (List.mem_of_getElem? (i := 9) rfl))) (notFace_of_selects (args := #[]) (mvT hZ (hw _ (List.mem_of_getElem? (i := 11) rfl)))) (mvT hZ (hw _ (List.mem_of_getElem? (i := 11) rfl))) (mvT hZ (hw _ (List.mem_of_getElem? (i := 10) rfl))) (by decide) (backOf (W := 0) (rm2_w_YEARS l Z a0 hw [] w_MONEY w_COUNT w_YEARS w_RATE w_FLAG w_DATE w_TABLE w_CHOICE w_MONTH h0 n0 (by exact ⟨S_MONEY, E_MONEY, S_COUNT, E_COUNT, S_YEARS, E_YEARS, S_RATE, E_RATE, S_FLAG, E_FLAG, S_DATE, E_DATE, S_TABLE, E_TABLE, S_CHOICE, E_CHOICE, S_MONTH, E_MONTH, F_COUNT_ordinal, F_MONEY_ordinal, F_YEARS_ordinal, F_RATE_ordinal, F_FLAG_ordinal, F_DATE_ordinal, F_TABLE_ordinal, F_CHOICE_ordinal, F_MONTH_ordinal⟩)) hZ (hw _ (List.mem_of_getElem? (i := 12) rfl)) (hw _ (List.mem_of_getElem? (i := 6) rfl)) (by decide) (by decide)) q2a q2c (g := (mkF m 25 #[.val (.int p0), .val (.int (1 : Int32)), .val (.ref w_YEARS), .val (.int (1 : Int32))] [(.ref w_YEARS)])) rfl (by rw [hml]; rfl) (Steps.refl _) (argsL := []) (rest := []) (lenOf pd___Z rfl) rfl (by show 2 * 0 + _ ≤ _; exact Nat.le_of_eq rfl) (hb hby at_25) (fun _ _ => ⟨rfl, e1, (by decide : 0 + 0 ≤ _), (by decide : 0 + 0 ≤ _)⟩)
  dsimp only [Pt.U, Pt.locs, Pt.cells, Pt.slots] at X2 l2 y2 z2 st2 hQ2
  subst l2 y2 z2
  obtain ⟨rfl, N2q, e2⟩ := hQ2
  have N2 := Fr.app N1 N2q
  refine own_tr st2 ?_
  show own_Fin p e below _ (T2.setTop (mkF m 28 #[.val (.int p0), .val (.int (1 : Int32)), .val (.ref w_YEARS), .val (.int (1 : Int32))] [(.int (1 : Int32))]))
  refine own_st (fun t k => XS.iloadN X2.here hx rfl (hb hby at_28) rfl k) ?_
  show own_Fin p e below _ (T2.setTop (mkF m 29 #[.val (.int p0), .val (.int (1 : Int32)), .val (.ref w_YEARS), .val (.int (1 : Int32))] [(.int (1 : Int32)), (.int (1 : Int32))]))
  refine own_st (fun t k => XS.icmpNo X2.here hx rfl (hb hby at_29) rfl (by decide) k) ?_
  show own_Fin p e below _ (T2.setTop (mkF m 32 #[.val (.int p0), .val (.int (1 : Int32)), .val (.ref w_YEARS), .val (.int (1 : Int32))] []))
  refine own_st (fun t k => XS.iconst X2.here hx rfl (hb hby at_32) k) ?_
  show own_Fin p e below _ (T2.setTop (mkF m 33 #[.val (.int p0), .val (.int (1 : Int32)), .val (.ref w_YEARS), .val (.int (1 : Int32))] [(.int (1 : Int32))]))
  refine own_st (fun t k => XS.goto X2.here hx rfl (pc0 := 33) (pc' := 37) rfl (hb hby at_33) (by decide) (by decide) k) ?_
  show own_Fin p e below _ (T2.setTop (mkF m 37 #[.val (.int p0), .val (.int (1 : Int32)), .val (.ref w_YEARS), .val (.int (1 : Int32))] [(.int (1 : Int32))]))
  obtain ⟨fs, hr, hrun, hended, hW, hsame⟩ := X2.leave (v := some (.int (1 : Int32))) (fun h => by rw [Bd.returns] at h; cases h)
  exact ⟨_, _, retN X2 hx (t := .boolean) Bd.returns (by simp) (hb hby at_37) hr, hrun, hended, _, _, rfl, ⟨rfl, N2, e2⟩, ⟨_, rfl⟩, hW, hsame.mono (by decide) (by decide)⟩
theorem d1_17 : decode method_2_code 17 = .ok (.iload_n 0, 1) := by decide +kernel
theorem d1_18 : decode method_2_code 18 = .ok (.iconst 2, 1) := by decide +kernel
theorem d1_19 : decode method_2_code 19 = .ok (.if_icmp .ne 7, 3) := by decide +kernel
theorem d1_22 : decode method_2_code 22 = .ok (.getstatic 16, 3) := by decide +kernel
theorem d1_25 : decode method_2_code 25 = .ok (.areturn, 1) := by decide +kernel
set_option maxRecDepth 65536 in
set_option maxHeartbeats 40000000 in
theorem rm1_2 (l : Launch) (Z : State) (a0 : Array Value) (hw : ∀ d ∈ tables_1, d.before a0 Z = true) (ws : List Jvm.Cond) (w_MONEY w_COUNT w_YEARS w_RATE w_FLAG w_DATE w_TABLE w_CHOICE w_MONTH : Addr) (h0 : Heap) (n0 : Nat) (PN : own_Pins Z h0 w_MONEY w_COUNT w_YEARS w_RATE w_FLAG w_DATE w_TABLE w_CHOICE w_MONTH) :
    MetFree l (⟨"com/example/vestry/vestry/model/KindIsNumberPinLaw", "pick", "(I)Lcom/example/vestry/vestry/model/Kind;"⟩ : MethodName) (head1 (Jvm.Cond.code (⟨"com/example/vestry/vestry/model/KindIsNumberPinLaw", "pick", "(I)Lcom/example/vestry/vestry/model/Kind;"⟩ : MethodName) method_2_code 1 (some (.object "com/example/vestry/vestry/model/Kind")) :: ws) ({ frames := 0, cells := 0, slots := 0, locals := 0 } : Room)) (fun a U => a = #[(.int (2 : Int32))] ∧ Z.Warmed39 U.vm ∧ U.heap = h0) (fun _ _ _ _ _ => True) (fun _ U o U' => ∃ v L, o = .returned v ∧ own_Q h0 n0 (some (.ref w_RATE)) v U'.heap L ∧ FrameEnd U o U' L ({ frames := 0, cells := 0, slots := 0, locals := 0 } : Room).cells ({ frames := 0, cells := 0, slots := 0, locals := 0 } : Room).slots) := by
  obtain ⟨S_MONEY, E_MONEY, S_COUNT, E_COUNT, S_YEARS, E_YEARS, S_RATE, E_RATE, S_FLAG, E_FLAG, S_DATE, E_DATE, S_TABLE, E_TABLE, S_CHOICE, E_CHOICE, S_MONTH, E_MONTH, F_COUNT_ordinal, F_MONEY_ordinal, F_YEARS_ordinal, F_RATE_ordinal, F_FLAG_ordinal, F_DATE_ordinal, F_TABLE_ordinal, F_CHOICE_ordinal, F_MONTH_ordinal⟩ := PN
  refine MetFree.of_bodySF (plainFor_of_name pn_com_example_vestry_vestry_model_KindIsNumberPinLaw) hisR ?_
  intro p e s m args below meth c s₁ Bd hml0 hP hK
  obtain ⟨rfl, hZ, hh⟩ := hP
  have hx := Bd.exec
  have hby := Bd.bytes
  have hml : c.maxLocals = 1 := hml0
  have hown : s.vm.findClass "com/example/vestry/vestry/model/KindIsNumberPinLaw" = some m.cls := findClass_of_methodNamed Bd.named
  have X0 : Stand p l e ({ frames := 0, cells := 0, slots := 0, locals := 0 } : Room) s m #[(.int (2 : Int32))] below meth c s₁ [] 0 0 := Stand.of_body Bd
  have e0 : s₁.heap = h0 := by rw [← hh, Bd.state]; rfl
  have N0 := Fr.nil n0
  refine (?_ : own_Fin p e below _ _)
  refine own_st (fun t k => castTop (ef_1_I m (2 : Int32)) k) ?_
  show own_Fin p e below _ (s₁.setTop (mkF m 0 #[.val (.int (2 : Int32))] []))
  refine own_st (fun t k => XS.iloadN X0.here hx rfl (hb hby d1_0) rfl k) ?_
  show own_Fin p e below _ (s₁.setTop (mkF m 1 #[.val (.int (2 : Int32))] [(.int (2 : Int32))]))
  refine own_st (fun t k => XS.ifYes X0.here hx rfl (pc0 := 1) (pc' := 8) rfl (hb hby d1_1) rfl (by decide) (by decide) (by decide) k) ?_
  show own_Fin p e below _ (s₁.setTop (mkF m 8 #[.val (.int (2 : Int32))] []))
  refine own_st (fun t k => XS.iloadN X0.here hx rfl (hb hby d1_8) rfl k) ?_
  show own_Fin p e below _ (s₁.setTop (mkF m 9 #[.val (.int (2 : Int32))] [(.int (2 : Int32))]))
  refine own_st (fun t k => XS.iconst X0.here hx rfl (hb hby d1_9) k) ?_
  show own_Fin p e below _ (s₁.setTop (mkF m 10 #[.val (.int (2 : Int32))] [(.int (1 : Int32)), (.int (2 : Int32))]))
  refine own_st (fun t k => XS.icmpYes X0.here hx rfl (pc0 := 10) (pc' := 17) rfl (hb hby d1_10) rfl (by decide) (by decide) (by decide) k) ?_
  show own_Fin p e below _ (s₁.setTop (mkF m 17 #[.val (.int (2 : Int32))] []))
  refine own_st (fun t k => XS.iloadN X0.here hx rfl (hb hby d1_17) rfl k) ?_
  show own_Fin p e below _ (s₁.setTop (mkF m 18 #[.val (.int (2 : Int32))] [(.int (2 : Int32))]))
  refine own_st (fun t k => XS.iconst X0.here hx rfl (hb hby d1_18) k) ?_
  show own_Fin p e below _ (s₁.setTop (mkF m 19 #[.val (.int (2 : Int32))] [(.int (2 : Int32)), (.int (2 : Int32))]))
  refine own_st (fun t k => XS.icmpNo X0.here hx rfl (hb hby d1_19) rfl (by decide) k) ?_
  show own_Fin p e below _ (s₁.setTop (mkF m 22 #[.val (.int (2 : Int32))] []))
  obtain ⟨T1, X1, e1, st1⟩ := getS2 X0 hx hZ hown (host := "") (Or.inl (hw _ (List.mem_of_getElem? (i := 21) rfl))) Via.refl e0 S_RATE (g := (mkF m 22 #[.val (.int (2 : Int32))] [])) rfl (hb hby d1_22)
  refine own_st st1 ?_
  show own_Fin p e below _ (T1.setTop (mkF m 25 #[.val (.int (2 : Int32))] [(.ref w_RATE)]))
  obtain ⟨fs, hr, hrun, hended, hW, hsame⟩ := X1.leave (v := some (.ref w_RATE)) (fun h => by rw [Bd.returns] at h; cases h)
  exact ⟨_, _, retOut X1 hx (t := (.object "com/example/vestry/vestry/model/Kind")) Bd.returns rfl (Or.inr (Or.inr (Or.inr (Or.inr ⟨rfl, rfl, rfl⟩)))) (hb hby d1_25) hr, hrun, hended, _, _, rfl, ⟨rfl, N0, e1⟩, ⟨_, rfl⟩, hW, hsame.mono (by decide) (by decide)⟩
theorem d2_14 : decode prog_42_method_5_code 14 = .ok (.aload_n 0, 1) := by decide +kernel
theorem d2_15 : decode prog_42_method_5_code 15 = .ok (.getstatic 10, 3) := by decide +kernel
theorem d2_18 : decode prog_42_method_5_code 18 = .ok (.if_acmp .eq 10, 3) := by decide +kernel
set_option maxRecDepth 65536 in
set_option maxHeartbeats 40000000 in
theorem rm2_w_RATE (l : Launch) (Z : State) (a0 : Array Value) (hw : ∀ d ∈ tables_1, d.before a0 Z = true) (ws : List Jvm.Cond) (w_MONEY w_COUNT w_YEARS w_RATE w_FLAG w_DATE w_TABLE w_CHOICE w_MONTH : Addr) (h0 : Heap) (n0 : Nat) (PN : own_Pins Z h0 w_MONEY w_COUNT w_YEARS w_RATE w_FLAG w_DATE w_TABLE w_CHOICE w_MONTH) :
    MetFree l (⟨"com/example/vestry/vestry/model/Kind", "isNumber", "()Z"⟩ : MethodName) (head1 (Jvm.Cond.code (⟨"com/example/vestry/vestry/model/Kind", "isNumber", "()Z"⟩ : MethodName) prog_42_method_5_code 1 (some .boolean) :: ws) ({ frames := 0, cells := 0, slots := 0, locals := 0 } : Room)) (fun a U => a = #[(.ref w_RATE)] ∧ Z.Warmed39 U.vm ∧ U.heap = h0) (fun _ _ _ _ _ => True) (fun _ U o U' => ∃ v L, o = .returned v ∧ own_Q h0 n0 (some (.int (1 : Int32))) v U'.heap L ∧ FrameEnd U o U' L ({ frames := 0, cells := 0, slots := 0, locals := 0 } : Room).cells ({ frames := 0, cells := 0, slots := 0, locals := 0 } : Room).slots) := by
  obtain ⟨S_MONEY, E_MONEY, S_COUNT, E_COUNT, S_YEARS, E_YEARS, S_RATE, E_RATE, S_FLAG, E_FLAG, S_DATE, E_DATE, S_TABLE, E_TABLE, S_CHOICE, E_CHOICE, S_MONTH, E_MONTH, F_COUNT_ordinal, F_MONEY_ordinal, F_YEARS_ordinal, F_RATE_ordinal, F_FLAG_ordinal, F_DATE_ordinal, F_TABLE_ordinal, F_CHOICE_ordinal, F_MONTH_ordinal⟩ := PN
  refine MetFree.of_bodySF (plainFor_of_name pn_com_example_vestry_vestry_model_Kind) hisR ?_
  intro p e s m args below meth c s₁ Bd hml0 hP hK
  obtain ⟨rfl, hZ, hh⟩ := hP
  have hx := Bd.exec
  have hby := Bd.bytes
  have hml : c.maxLocals = 1 := hml0
  have hown : s.vm.findClass "com/example/vestry/vestry/model/Kind" = some m.cls := findClass_of_methodNamed Bd.named
  have X0 : Stand p l e ({ frames := 0, cells := 0, slots := 0, locals := 0 } : Room) s m #[(.ref w_RATE)] below meth c s₁ [] 0 0 := Stand.of_body Bd
  have e0 : s₁.heap = h0 := by rw [← hh, Bd.state]; rfl
  have N0 := Fr.nil n0
  refine (?_ : own_Fin p e below _ _)
  refine own_st (fun t k => castTop (ef_2_R m w_RATE) k) ?_
  show own_Fin p e below _ (s₁.setTop (mkF m 0 #[.val (.ref w_RATE)] []))
  refine own_st (fun t k => XS.aloadN X0.here hx rfl (hb hby d2_0) rfl rfl k) ?_
  show own_Fin p e below _ (s₁.setTop (mkF m 1 #[.val (.ref w_RATE)] [(.ref w_RATE)]))
  obtain ⟨T1, X1, e1, st1⟩ := getS2 X0 hx hZ hown (host := "") (Or.inl (hw _ (List.mem_of_getElem? (i := 13) rfl))) Via.refl e0 S_MONEY (g := (mkF m 1 #[.val (.ref w_RATE)] [(.ref w_RATE)])) rfl (hb hby d2_1)
  refine own_st st1 ?_
  show own_Fin p e below _ (T1.setTop (mkF m 4 #[.val (.ref w_RATE)] [(.ref w_MONEY), (.ref w_RATE)]))
  refine own_st (fun t k => Jvm.RoadKit.acmp (g := (mkF m 4 #[.val (.ref w_RATE)] [(.ref w_MONEY), (.ref w_RATE)])) X1 hx rfl rfl rfl (pc0 := 4) (pc' := 7) (same := false) rfl (hb hby d2_4) rfl (decide_eq_false fun q => (Fld.ne F_RATE_ordinal F_MONEY_ordinal (by simp)) (Value.ref.inj q)) (by decide) (by decide) k) ?_
  show own_Fin p e below _ (T1.setTop (mkF m 7 #[.val (.ref w_RATE)] []))
  refine own_st (fun t k => XS.aloadN X1.here hx rfl (hb hby d2_7) rfl rfl k) ?_
  show own_Fin p e below _ (T1.setTop (mkF m 8 #[.val (.ref w_RATE)] [(.ref w_RATE)]))
  obtain ⟨T2, X2, e2, st2⟩ := getS2 X1 hx hZ hown (host := "") (Or.inl (hw _ (List.mem_of_getElem? (i := 16) rfl))) Via.refl e1 S_YEARS (g := (mkF m 8 #[.val (.ref w_RATE)] [(.ref w_RATE)])) rfl (hb hby d2_8)
  refine own_st st2 ?_
  show own_Fin p e below _ (T2.setTop (mkF m 11 #[.val (.ref w_RATE)] [(.ref w_YEARS), (.ref w_RATE)]))
  refine own_st (fun t k => Jvm.RoadKit.acmp (g := (mkF m 11 #[.val (.ref w_RATE)] [(.ref w_YEARS), (.ref w_RATE)])) X2 hx rfl rfl rfl (pc0 := 11) (pc' := 14) (same := false) rfl (hb hby d2_11) rfl (decide_eq_false fun q => (Fld.ne F_RATE_ordinal F_YEARS_ordinal (by simp)) (Value.ref.inj q)) (by decide) (by decide) k) ?_
  show own_Fin p e below _ (T2.setTop (mkF m 14 #[.val (.ref w_RATE)] []))
  refine own_st (fun t k => XS.aloadN X2.here hx rfl (hb hby d2_14) rfl rfl k) ?_
  show own_Fin p e below _ (T2.setTop (mkF m 15 #[.val (.ref w_RATE)] [(.ref w_RATE)]))
  obtain ⟨T3, X3, e3, st3⟩ := getS2 X2 hx hZ hown (host := "") (Or.inl (hw _ (List.mem_of_getElem? (i := 18) rfl))) Via.refl e2 S_RATE (g := (mkF m 15 #[.val (.ref w_RATE)] [(.ref w_RATE)])) rfl (hb hby d2_15)
  refine own_st st3 ?_
  show own_Fin p e below _ (T3.setTop (mkF m 18 #[.val (.ref w_RATE)] [(.ref w_RATE), (.ref w_RATE)]))
  refine own_st (fun t k => Jvm.RoadKit.acmp (g := (mkF m 18 #[.val (.ref w_RATE)] [(.ref w_RATE), (.ref w_RATE)])) X3 hx rfl rfl rfl (pc0 := 18) (pc' := 28) (same := true) rfl (hb hby d2_18) rfl (decide_eq_true rfl) (by decide) (by decide) k) ?_
  show own_Fin p e below _ (T3.setTop (mkF m 28 #[.val (.ref w_RATE)] []))
  refine own_st (fun t k => XS.iconst X3.here hx rfl (hb hby d2_28) k) ?_
  show own_Fin p e below _ (T3.setTop (mkF m 29 #[.val (.ref w_RATE)] [(.int (1 : Int32))]))
  refine own_st (fun t k => XS.goto X3.here hx rfl (pc0 := 29) (pc' := 33) rfl (hb hby d2_29) (by decide) (by decide) k) ?_
  show own_Fin p e below _ (T3.setTop (mkF m 33 #[.val (.ref w_RATE)] [(.int (1 : Int32))]))
  obtain ⟨fs, hr, hrun, hended, hW, hsame⟩ := X3.leave (v := some (.int (1 : Int32))) (fun h => by rw [Bd.returns] at h; cases h)
  exact ⟨_, _, retN X3 hx (t := .boolean) Bd.returns (by simp) (hb hby d2_33) hr, hrun, hended, _, _, rfl, ⟨rfl, N0, e3⟩, ⟨_, rfl⟩, hW, hsame.mono (by decide) (by decide)⟩
set_option maxRecDepth 65536 in
set_option maxHeartbeats 40000000 in
theorem rm0_c2 (l : Launch) (Z : State) (a0 : Array Value) (hw : ∀ d ∈ tables_1, d.before a0 Z = true) (ws : List Jvm.Cond) (w_MONEY w_COUNT w_YEARS w_RATE w_FLAG w_DATE w_TABLE w_CHOICE w_MONTH : Addr) (p0 : Int32) (h0 : Heap) (n0 : Nat) (PN : own_Pins Z h0 w_MONEY w_COUNT w_YEARS w_RATE w_FLAG w_DATE w_TABLE w_CHOICE w_MONTH) (q0 : ((p0 &&& (2147483647 : Int32)) % (9 : Int32)) = (2 : Int32)) :
    MetFree l x (head1 (Jvm.Cond.code x code maxLocals ret :: ws) room_1) (fun a U => a = #[(.int p0)] ∧ Z.Warmed39 U.vm ∧ U.heap = h0) (fun _ _ _ _ _ => True) (fun _ U o U' => ∃ v L, o = .returned v ∧ own_Q h0 n0 (some (.int (1 : Int32))) v U'.heap L ∧ FrameEnd U o U' L room_1.cells room_1.slots) := by
  obtain ⟨S_MONEY, E_MONEY, S_COUNT, E_COUNT, S_YEARS, E_YEARS, S_RATE, E_RATE, S_FLAG, E_FLAG, S_DATE, E_DATE, S_TABLE, E_TABLE, S_CHOICE, E_CHOICE, S_MONTH, E_MONTH, F_COUNT_ordinal, F_MONEY_ordinal, F_YEARS_ordinal, F_RATE_ordinal, F_FLAG_ordinal, F_DATE_ordinal, F_TABLE_ordinal, F_CHOICE_ordinal, F_MONTH_ordinal⟩ := PN
  refine MetFree.of_bodySF (plainFor_of_name pn_com_example_vestry_vestry_model_KindIsNumberPinLaw) hisR ?_
  intro p e s m args below meth c s₁ Bd hml0 hP hK
  obtain ⟨rfl, hZ, hh⟩ := hP
  have hx := Bd.exec
  have hby := Bd.bytes
  have hml : c.maxLocals = 4 := hml0
  have hown : s.vm.findClass "com/example/vestry/vestry/model/KindIsNumberPinLaw" = some m.cls := findClass_of_methodNamed Bd.named
  have X0 : Stand p l e room_1 s m #[(.int p0)] below meth c s₁ [] 0 0 := Stand.of_body Bd
  have e0 : s₁.heap = h0 := by rw [← hh, Bd.state]; rfl
  have N0 := Fr.nil n0
  refine (?_ : own_Fin p e below _ _)
  refine own_st (fun t k => castTop (ef_0_I m p0) k) ?_
  show own_Fin p e below _ (s₁.setTop (mkF m 0 #[.val (.int p0), .unset, .unset, .unset] []))
  refine own_st (fun t k => XS.iloadN X0.here hx rfl (hb hby at_0) rfl k) ?_
  show own_Fin p e below _ (s₁.setTop (mkF m 1 #[.val (.int p0), .unset, .unset, .unset] [(.int p0)]))
  refine own_st (fun t k => X0.ldcI hx hown (mvT hZ (hw _ (List.mem_of_getElem? (i := 0) rfl))) rfl (hb hby at_1) k) ?_
  show own_Fin p e below _ (s₁.setTop (mkF m 3 #[.val (.int p0), .unset, .unset, .unset] [(.int (2147483647 : Int32)), (.int p0)]))
  refine own_st (fun t k => XS.iand X0.here hx rfl (hb hby at_3) rfl k) ?_
  show own_Fin p e below _ (s₁.setTop (mkF m 4 #[.val (.int p0), .unset, .unset, .unset] [(.int (p0 &&& (2147483647 : Int32)))]))
  refine own_st (fun t k => XS.bipush X0.here hx rfl (hb hby at_4) k) ?_
  show own_Fin p e below _ (s₁.setTop (mkF m 6 #[.val (.int p0), .unset, .unset, .unset] [(.int (9 : Int32)), (.int (p0 &&& (2147483647 : Int32)))]))
  refine own_st (fun t k => iremM X0 hx rfl (hb hby at_6) rfl (by decide) k) ?_
  show own_Fin p e below _ (s₁.setTop (mkF m 7 #[.val (.int p0), .unset, .unset, .unset] [(.int ((p0 &&& (2147483647 : Int32)) % (9 : Int32)))]))
  rw [q0]
  show own_Fin p e below _ (s₁.setTop (mkF m 7 #[.val (.int p0), .unset, .unset, .unset] [(.int (2 : Int32))]))
  refine own_st (fun t k => XS.istoreN X0.here hx rfl (hb hby at_7) rfl (l' := #[.val (.int p0), .val (.int (2 : Int32)), .unset, .unset]) rfl k) ?_
  show own_Fin p e below _ (s₁.setTop (mkF m 8 #[.val (.int p0), .val (.int (2 : Int32)), .unset, .unset] []))
  refine own_st (fun t k => XS.iloadN X0.here hx rfl (hb hby at_8) rfl k) ?_
  show own_Fin p e below _ (s₁.setTop (mkF m 9 #[.val (.int p0), .val (.int (2 : Int32)), .unset, .unset] [(.int (2 : Int32))]))
  obtain ⟨_, _, ⟨T1, L1, k1, n1⟩, -, X1, ⟨Lc1, hQ1, l1, y1, z1⟩, st1⟩ := Jvm.LawKit.callS X0 hx (y := (⟨"com/example/vestry/vestry/model/KindIsNumberPinLaw", "pick", "(I)Lcom/example/vestry/vestry/model/Kind;"⟩ : MethodName)) hown (mvT hZ (hw _ (List.mem_of_getElem? (i := 1) rfl))) (mvT hZ (hw _ (List.mem_of_getElem? (i := 2) rfl))) (mvT hZ (hw _ (List.mem_of_getElem? (i := 3) rfl))) (mvT hZ (hw _ (List.mem_of_getElem? (i := 4) rfl))) (by decide) (backOf (W := 0) (rm1_2 l Z a0 hw [] w_MONEY w_COUNT w_YEARS w_RATE w_FLAG w_DATE w_TABLE w_CHOICE w_MONTH h0 n0 (by exact ⟨S_MONEY, E_MONEY, S_COUNT, E_COUNT, S_YEARS, E_YEARS, S_RATE, E_RATE, S_FLAG, E_FLAG, S_DATE, E_DATE, S_TABLE, E_TABLE, S_CHOICE, E_CHOICE, S_MONTH, E_MONTH, F_COUNT_ordinal, F_MONEY_ordinal, F_YEARS_ordinal, F_RATE_ordinal, F_FLAG_ordinal, F_DATE_ordinal, F_TABLE_ordinal, F_CHOICE_ordinal, F_MONTH_ordinal⟩)) hZ (hw _ (List.mem_of_getElem? (i := 4) rfl)) (hw _ (List.mem_of_getElem? (i := 3) rfl)) (by decide) (by decide)) (g := (mkF m 9 #[.val (.int p0), .val (.int (2 : Int32)), .unset, .unset] [(.int (2 : Int32))])) rfl (by rw [hml]; rfl) (argsL := [(.int (2 : Int32))]) (rest := []) (lenOf pd__I_Lcom_example_vestry_vestry_model_Kind_ rfl) rfl (by show 2 * 0 + _ ≤ _; exact Nat.le_of_eq rfl) (hb hby at_9) (fun _ _ => ⟨rfl, e0, (by decide : 0 + 0 ≤ _), (by decide : 0 + 0 ≤ _)⟩)
  dsimp only [Pt.U, Pt.locs, Pt.cells, Pt.slots] at X1 l1 y1 z1 st1 hQ1
  subst l1 y1 z1
  obtain ⟨rfl, N1q, e1⟩ := hQ1
  have N1 := Fr.app N0 N1q
  refine own_st st1 ?_
  show own_Fin p e below _ (T1.setTop (mkF m 12 #[.val (.int p0), .val (.int (2 : Int32)), .unset, .unset] [(.ref w_RATE)]))
  refine own_st (fun t k => XS.astoreN X1.here hx rfl (hb hby at_12) rfl rfl (l' := #[.val (.int p0), .val (.int (2 : Int32)), .val (.ref w_RATE), .unset]) rfl k) ?_
  show own_Fin p e below _ (T1.setTop (mkF m 13 #[.val (.int p0), .val (.int (2 : Int32)), .val (.ref w_RATE), .unset] []))
  refine own_st (fun t k => XS.iloadN X1.here hx rfl (hb hby at_13) rfl k) ?_
  show own_Fin p e below _ (T1.setTop (mkF m 14 #[.val (.int p0), .val (.int (2 : Int32)), .val (.ref w_RATE), .unset] [(.int (2 : Int32))]))
  refine own_st (fun t k => XS.iconst X1.here hx rfl (hb hby at_14) k) ?_
  show own_Fin p e below _ (T1.setTop (mkF m 15 #[.val (.int p0), .val (.int (2 : Int32)), .val (.ref w_RATE), .unset] [(.int (4 : Int32)), (.int (2 : Int32))]))
  refine own_st (fun t k => XS.icmpNo X1.here hx rfl (hb hby at_15) rfl (by decide) k) ?_
  show own_Fin p e below _ (T1.setTop (mkF m 18 #[.val (.int p0), .val (.int (2 : Int32)), .val (.ref w_RATE), .unset] []))
  refine own_st (fun t k => XS.iconst X1.here hx rfl (hb hby at_18) k) ?_
  show own_Fin p e below _ (T1.setTop (mkF m 19 #[.val (.int p0), .val (.int (2 : Int32)), .val (.ref w_RATE), .unset] [(.int (1 : Int32))]))
  refine own_st (fun t k => XS.goto X1.here hx rfl (pc0 := 19) (pc' := 23) rfl (hb hby at_19) (by decide) (by decide) k) ?_
  show own_Fin p e below _ (T1.setTop (mkF m 23 #[.val (.int p0), .val (.int (2 : Int32)), .val (.ref w_RATE), .unset] [(.int (1 : Int32))]))
  refine own_st (fun t k => XS.istoreN X1.here hx rfl (hb hby at_23) rfl (l' := #[.val (.int p0), .val (.int (2 : Int32)), .val (.ref w_RATE), .val (.int (1 : Int32))]) rfl k) ?_
  show own_Fin p e below _ (T1.setTop (mkF m 24 #[.val (.int p0), .val (.int (2 : Int32)), .val (.ref w_RATE), .val (.int (1 : Int32))] []))
  refine own_st (fun t k => XS.aloadN X1.here hx rfl (hb hby at_24) rfl rfl k) ?_
  show own_Fin p e below _ (T1.setTop (mkF m 25 #[.val (.int p0), .val (.int (2 : Int32)), .val (.ref w_RATE), .val (.int (1 : Int32))] [(.ref w_RATE)]))
  obtain ⟨cq2, kq2, q2a, q2b, q2c⟩ := isOf hZ e1 E_RATE
  obtain ⟨_, _, ⟨T2, L2, k2, n2⟩, -, X2, ⟨Lc2, hQ2, l2, y2, z2⟩, st2⟩ := X1.virtualBack hx (y := (⟨"com/example/vestry/vestry/model/Kind", "isNumber", "()Z"⟩ : MethodName)) (z := (⟨"com/example/vestry/vestry/model/Kind", "isNumber", "()Z"⟩ : MethodName)) hown (mvT hZ (hw _ (List.mem_of_getElem? (i := 8) rfl))) (mvT hZ (hw _ (List.mem_of_getElem? (i := 9) rfl))) (notFace_of_selects (args := #[]) (mvT hZ (hw _ (List.mem_of_getElem? (i := 11) rfl)))) (mvT hZ (hw _ (List.mem_of_getElem? (i := 11) rfl))) (mvT hZ (hw _ (List.mem_of_getElem? (i := 10) rfl))) (by decide) (backOf (W := 0) (rm2_w_RATE l Z a0 hw [] w_MONEY w_COUNT w_YEARS w_RATE w_FLAG w_DATE w_TABLE w_CHOICE w_MONTH h0 n0 (by exact ⟨S_MONEY, E_MONEY, S_COUNT, E_COUNT, S_YEARS, E_YEARS, S_RATE, E_RATE, S_FLAG, E_FLAG, S_DATE, E_DATE, S_TABLE, E_TABLE, S_CHOICE, E_CHOICE, S_MONTH, E_MONTH, F_COUNT_ordinal, F_MONEY_ordinal, F_YEARS_ordinal, F_RATE_ordinal, F_FLAG_ordinal, F_DATE_ordinal, F_TABLE_ordinal, F_CHOICE_ordinal, F_MONTH_ordinal⟩)) hZ (hw _ (List.mem_of_getElem? (i := 12) rfl)) (hw _ (List.mem_of_getElem? (i := 6) rfl)) (by decide) (by decide)) q2a q2c (g := (mkF m 25 #[.val (.int p0), .val (.int (2 : Int32)), .val (.ref w_RATE), .val (.int (1 : Int32))] [(.ref w_RATE)])) rfl (by rw [hml]; rfl) (Steps.refl _) (argsL := []) (rest := []) (lenOf pd___Z rfl) rfl (by show 2 * 0 + _ ≤ _; exact Nat.le_of_eq rfl) (hb hby at_25) (fun _ _ => ⟨rfl, e1, (by decide : 0 + 0 ≤ _), (by decide : 0 + 0 ≤ _)⟩)
  dsimp only [Pt.U, Pt.locs, Pt.cells, Pt.slots] at X2 l2 y2 z2 st2 hQ2
  subst l2 y2 z2
  obtain ⟨rfl, N2q, e2⟩ := hQ2
  have N2 := Fr.app N1 N2q
  refine own_tr st2 ?_
  show own_Fin p e below _ (T2.setTop (mkF m 28 #[.val (.int p0), .val (.int (2 : Int32)), .val (.ref w_RATE), .val (.int (1 : Int32))] [(.int (1 : Int32))]))
  refine own_st (fun t k => XS.iloadN X2.here hx rfl (hb hby at_28) rfl k) ?_
  show own_Fin p e below _ (T2.setTop (mkF m 29 #[.val (.int p0), .val (.int (2 : Int32)), .val (.ref w_RATE), .val (.int (1 : Int32))] [(.int (1 : Int32)), (.int (1 : Int32))]))
  refine own_st (fun t k => XS.icmpNo X2.here hx rfl (hb hby at_29) rfl (by decide) k) ?_
  show own_Fin p e below _ (T2.setTop (mkF m 32 #[.val (.int p0), .val (.int (2 : Int32)), .val (.ref w_RATE), .val (.int (1 : Int32))] []))
  refine own_st (fun t k => XS.iconst X2.here hx rfl (hb hby at_32) k) ?_
  show own_Fin p e below _ (T2.setTop (mkF m 33 #[.val (.int p0), .val (.int (2 : Int32)), .val (.ref w_RATE), .val (.int (1 : Int32))] [(.int (1 : Int32))]))
  refine own_st (fun t k => XS.goto X2.here hx rfl (pc0 := 33) (pc' := 37) rfl (hb hby at_33) (by decide) (by decide) k) ?_
  show own_Fin p e below _ (T2.setTop (mkF m 37 #[.val (.int p0), .val (.int (2 : Int32)), .val (.ref w_RATE), .val (.int (1 : Int32))] [(.int (1 : Int32))]))
  obtain ⟨fs, hr, hrun, hended, hW, hsame⟩ := X2.leave (v := some (.int (1 : Int32))) (fun h => by rw [Bd.returns] at h; cases h)
  exact ⟨_, _, retN X2 hx (t := .boolean) Bd.returns (by simp) (hb hby at_37) hr, hrun, hended, _, _, rfl, ⟨rfl, N2, e2⟩, ⟨_, rfl⟩, hW, hsame.mono (by decide) (by decide)⟩
theorem d1_26 : decode method_2_code 26 = .ok (.iload_n 0, 1) := by decide +kernel
theorem d1_27 : decode method_2_code 27 = .ok (.iconst 3, 1) := by decide +kernel
theorem d1_28 : decode method_2_code 28 = .ok (.if_icmp .ne 7, 3) := by decide +kernel
theorem d1_31 : decode method_2_code 31 = .ok (.getstatic 19, 3) := by decide +kernel
theorem d1_34 : decode method_2_code 34 = .ok (.areturn, 1) := by decide +kernel
set_option maxRecDepth 65536 in
set_option maxHeartbeats 40000000 in
theorem rm1_3 (l : Launch) (Z : State) (a0 : Array Value) (hw : ∀ d ∈ tables_1, d.before a0 Z = true) (ws : List Jvm.Cond) (w_MONEY w_COUNT w_YEARS w_RATE w_FLAG w_DATE w_TABLE w_CHOICE w_MONTH : Addr) (h0 : Heap) (n0 : Nat) (PN : own_Pins Z h0 w_MONEY w_COUNT w_YEARS w_RATE w_FLAG w_DATE w_TABLE w_CHOICE w_MONTH) :
    MetFree l (⟨"com/example/vestry/vestry/model/KindIsNumberPinLaw", "pick", "(I)Lcom/example/vestry/vestry/model/Kind;"⟩ : MethodName) (head1 (Jvm.Cond.code (⟨"com/example/vestry/vestry/model/KindIsNumberPinLaw", "pick", "(I)Lcom/example/vestry/vestry/model/Kind;"⟩ : MethodName) method_2_code 1 (some (.object "com/example/vestry/vestry/model/Kind")) :: ws) ({ frames := 0, cells := 0, slots := 0, locals := 0 } : Room)) (fun a U => a = #[(.int (3 : Int32))] ∧ Z.Warmed39 U.vm ∧ U.heap = h0) (fun _ _ _ _ _ => True) (fun _ U o U' => ∃ v L, o = .returned v ∧ own_Q h0 n0 (some (.ref w_COUNT)) v U'.heap L ∧ FrameEnd U o U' L ({ frames := 0, cells := 0, slots := 0, locals := 0 } : Room).cells ({ frames := 0, cells := 0, slots := 0, locals := 0 } : Room).slots) := by
  obtain ⟨S_MONEY, E_MONEY, S_COUNT, E_COUNT, S_YEARS, E_YEARS, S_RATE, E_RATE, S_FLAG, E_FLAG, S_DATE, E_DATE, S_TABLE, E_TABLE, S_CHOICE, E_CHOICE, S_MONTH, E_MONTH, F_COUNT_ordinal, F_MONEY_ordinal, F_YEARS_ordinal, F_RATE_ordinal, F_FLAG_ordinal, F_DATE_ordinal, F_TABLE_ordinal, F_CHOICE_ordinal, F_MONTH_ordinal⟩ := PN
  refine MetFree.of_bodySF (plainFor_of_name pn_com_example_vestry_vestry_model_KindIsNumberPinLaw) hisR ?_
  intro p e s m args below meth c s₁ Bd hml0 hP hK
  obtain ⟨rfl, hZ, hh⟩ := hP
  have hx := Bd.exec
  have hby := Bd.bytes
  have hml : c.maxLocals = 1 := hml0
  have hown : s.vm.findClass "com/example/vestry/vestry/model/KindIsNumberPinLaw" = some m.cls := findClass_of_methodNamed Bd.named
  have X0 : Stand p l e ({ frames := 0, cells := 0, slots := 0, locals := 0 } : Room) s m #[(.int (3 : Int32))] below meth c s₁ [] 0 0 := Stand.of_body Bd
  have e0 : s₁.heap = h0 := by rw [← hh, Bd.state]; rfl
  have N0 := Fr.nil n0
  refine (?_ : own_Fin p e below _ _)
  refine own_st (fun t k => castTop (ef_1_I m (3 : Int32)) k) ?_
  show own_Fin p e below _ (s₁.setTop (mkF m 0 #[.val (.int (3 : Int32))] []))
  refine own_st (fun t k => XS.iloadN X0.here hx rfl (hb hby d1_0) rfl k) ?_
  show own_Fin p e below _ (s₁.setTop (mkF m 1 #[.val (.int (3 : Int32))] [(.int (3 : Int32))]))
  refine own_st (fun t k => XS.ifYes X0.here hx rfl (pc0 := 1) (pc' := 8) rfl (hb hby d1_1) rfl (by decide) (by decide) (by decide) k) ?_
  show own_Fin p e below _ (s₁.setTop (mkF m 8 #[.val (.int (3 : Int32))] []))
  refine own_st (fun t k => XS.iloadN X0.here hx rfl (hb hby d1_8) rfl k) ?_
  show own_Fin p e below _ (s₁.setTop (mkF m 9 #[.val (.int (3 : Int32))] [(.int (3 : Int32))]))
  refine own_st (fun t k => XS.iconst X0.here hx rfl (hb hby d1_9) k) ?_
  show own_Fin p e below _ (s₁.setTop (mkF m 10 #[.val (.int (3 : Int32))] [(.int (1 : Int32)), (.int (3 : Int32))]))
  refine own_st (fun t k => XS.icmpYes X0.here hx rfl (pc0 := 10) (pc' := 17) rfl (hb hby d1_10) rfl (by decide) (by decide) (by decide) k) ?_
  show own_Fin p e below _ (s₁.setTop (mkF m 17 #[.val (.int (3 : Int32))] []))
  refine own_st (fun t k => XS.iloadN X0.here hx rfl (hb hby d1_17) rfl k) ?_
  show own_Fin p e below _ (s₁.setTop (mkF m 18 #[.val (.int (3 : Int32))] [(.int (3 : Int32))]))
  refine own_st (fun t k => XS.iconst X0.here hx rfl (hb hby d1_18) k) ?_
  show own_Fin p e below _ (s₁.setTop (mkF m 19 #[.val (.int (3 : Int32))] [(.int (2 : Int32)), (.int (3 : Int32))]))
  refine own_st (fun t k => XS.icmpYes X0.here hx rfl (pc0 := 19) (pc' := 26) rfl (hb hby d1_19) rfl (by decide) (by decide) (by decide) k) ?_
  show own_Fin p e below _ (s₁.setTop (mkF m 26 #[.val (.int (3 : Int32))] []))
  refine own_st (fun t k => XS.iloadN X0.here hx rfl (hb hby d1_26) rfl k) ?_
  show own_Fin p e below _ (s₁.setTop (mkF m 27 #[.val (.int (3 : Int32))] [(.int (3 : Int32))]))
  refine own_st (fun t k => XS.iconst X0.here hx rfl (hb hby d1_27) k) ?_
  show own_Fin p e below _ (s₁.setTop (mkF m 28 #[.val (.int (3 : Int32))] [(.int (3 : Int32)), (.int (3 : Int32))]))
  refine own_st (fun t k => XS.icmpNo X0.here hx rfl (hb hby d1_28) rfl (by decide) k) ?_
  show own_Fin p e below _ (s₁.setTop (mkF m 31 #[.val (.int (3 : Int32))] []))
  obtain ⟨T1, X1, e1, st1⟩ := getS2 X0 hx hZ hown (host := "") (Or.inl (hw _ (List.mem_of_getElem? (i := 14) rfl))) Via.refl e0 S_COUNT (g := (mkF m 31 #[.val (.int (3 : Int32))] [])) rfl (hb hby d1_31)
  refine own_st st1 ?_
  show own_Fin p e below _ (T1.setTop (mkF m 34 #[.val (.int (3 : Int32))] [(.ref w_COUNT)]))
  obtain ⟨fs, hr, hrun, hended, hW, hsame⟩ := X1.leave (v := some (.ref w_COUNT)) (fun h => by rw [Bd.returns] at h; cases h)
  exact ⟨_, _, retOut X1 hx (t := (.object "com/example/vestry/vestry/model/Kind")) Bd.returns rfl (Or.inr (Or.inr (Or.inr (Or.inr ⟨rfl, rfl, rfl⟩)))) (hb hby d1_34) hr, hrun, hended, _, _, rfl, ⟨rfl, N0, e1⟩, ⟨_, rfl⟩, hW, hsame.mono (by decide) (by decide)⟩
theorem d2_21 : decode prog_42_method_5_code 21 = .ok (.aload_n 0, 1) := by decide +kernel
theorem d2_22 : decode prog_42_method_5_code 22 = .ok (.getstatic 13, 3) := by decide +kernel
theorem d2_25 : decode prog_42_method_5_code 25 = .ok (.if_acmp .ne 7, 3) := by decide +kernel
set_option maxRecDepth 65536 in
set_option maxHeartbeats 40000000 in
theorem rm2_w_COUNT (l : Launch) (Z : State) (a0 : Array Value) (hw : ∀ d ∈ tables_1, d.before a0 Z = true) (ws : List Jvm.Cond) (w_MONEY w_COUNT w_YEARS w_RATE w_FLAG w_DATE w_TABLE w_CHOICE w_MONTH : Addr) (h0 : Heap) (n0 : Nat) (PN : own_Pins Z h0 w_MONEY w_COUNT w_YEARS w_RATE w_FLAG w_DATE w_TABLE w_CHOICE w_MONTH) :
    MetFree l (⟨"com/example/vestry/vestry/model/Kind", "isNumber", "()Z"⟩ : MethodName) (head1 (Jvm.Cond.code (⟨"com/example/vestry/vestry/model/Kind", "isNumber", "()Z"⟩ : MethodName) prog_42_method_5_code 1 (some .boolean) :: ws) ({ frames := 0, cells := 0, slots := 0, locals := 0 } : Room)) (fun a U => a = #[(.ref w_COUNT)] ∧ Z.Warmed39 U.vm ∧ U.heap = h0) (fun _ _ _ _ _ => True) (fun _ U o U' => ∃ v L, o = .returned v ∧ own_Q h0 n0 (some (.int (1 : Int32))) v U'.heap L ∧ FrameEnd U o U' L ({ frames := 0, cells := 0, slots := 0, locals := 0 } : Room).cells ({ frames := 0, cells := 0, slots := 0, locals := 0 } : Room).slots) := by
  obtain ⟨S_MONEY, E_MONEY, S_COUNT, E_COUNT, S_YEARS, E_YEARS, S_RATE, E_RATE, S_FLAG, E_FLAG, S_DATE, E_DATE, S_TABLE, E_TABLE, S_CHOICE, E_CHOICE, S_MONTH, E_MONTH, F_COUNT_ordinal, F_MONEY_ordinal, F_YEARS_ordinal, F_RATE_ordinal, F_FLAG_ordinal, F_DATE_ordinal, F_TABLE_ordinal, F_CHOICE_ordinal, F_MONTH_ordinal⟩ := PN
  refine MetFree.of_bodySF (plainFor_of_name pn_com_example_vestry_vestry_model_Kind) hisR ?_
  intro p e s m args below meth c s₁ Bd hml0 hP hK
  obtain ⟨rfl, hZ, hh⟩ := hP
  have hx := Bd.exec
  have hby := Bd.bytes
  have hml : c.maxLocals = 1 := hml0
  have hown : s.vm.findClass "com/example/vestry/vestry/model/Kind" = some m.cls := findClass_of_methodNamed Bd.named
  have X0 : Stand p l e ({ frames := 0, cells := 0, slots := 0, locals := 0 } : Room) s m #[(.ref w_COUNT)] below meth c s₁ [] 0 0 := Stand.of_body Bd
  have e0 : s₁.heap = h0 := by rw [← hh, Bd.state]; rfl
  have N0 := Fr.nil n0
  refine (?_ : own_Fin p e below _ _)
  refine own_st (fun t k => castTop (ef_2_R m w_COUNT) k) ?_
  show own_Fin p e below _ (s₁.setTop (mkF m 0 #[.val (.ref w_COUNT)] []))
  refine own_st (fun t k => XS.aloadN X0.here hx rfl (hb hby d2_0) rfl rfl k) ?_
  show own_Fin p e below _ (s₁.setTop (mkF m 1 #[.val (.ref w_COUNT)] [(.ref w_COUNT)]))
  obtain ⟨T1, X1, e1, st1⟩ := getS2 X0 hx hZ hown (host := "") (Or.inl (hw _ (List.mem_of_getElem? (i := 13) rfl))) Via.refl e0 S_MONEY (g := (mkF m 1 #[.val (.ref w_COUNT)] [(.ref w_COUNT)])) rfl (hb hby d2_1)
  refine own_st st1 ?_
  show own_Fin p e below _ (T1.setTop (mkF m 4 #[.val (.ref w_COUNT)] [(.ref w_MONEY), (.ref w_COUNT)]))
  refine own_st (fun t k => Jvm.RoadKit.acmp (g := (mkF m 4 #[.val (.ref w_COUNT)] [(.ref w_MONEY), (.ref w_COUNT)])) X1 hx rfl rfl rfl (pc0 := 4) (pc' := 7) (same := false) rfl (hb hby d2_4) rfl (decide_eq_false fun q => (Fld.ne F_COUNT_ordinal F_MONEY_ordinal (by simp)) (Value.ref.inj q)) (by decide) (by decide) k) ?_
  show own_Fin p e below _ (T1.setTop (mkF m 7 #[.val (.ref w_COUNT)] []))
  refine own_st (fun t k => XS.aloadN X1.here hx rfl (hb hby d2_7) rfl rfl k) ?_
  show own_Fin p e below _ (T1.setTop (mkF m 8 #[.val (.ref w_COUNT)] [(.ref w_COUNT)]))
  obtain ⟨T2, X2, e2, st2⟩ := getS2 X1 hx hZ hown (host := "") (Or.inl (hw _ (List.mem_of_getElem? (i := 16) rfl))) Via.refl e1 S_YEARS (g := (mkF m 8 #[.val (.ref w_COUNT)] [(.ref w_COUNT)])) rfl (hb hby d2_8)
  refine own_st st2 ?_
  show own_Fin p e below _ (T2.setTop (mkF m 11 #[.val (.ref w_COUNT)] [(.ref w_YEARS), (.ref w_COUNT)]))
  refine own_st (fun t k => Jvm.RoadKit.acmp (g := (mkF m 11 #[.val (.ref w_COUNT)] [(.ref w_YEARS), (.ref w_COUNT)])) X2 hx rfl rfl rfl (pc0 := 11) (pc' := 14) (same := false) rfl (hb hby d2_11) rfl (decide_eq_false fun q => (Fld.ne F_COUNT_ordinal F_YEARS_ordinal (by simp)) (Value.ref.inj q)) (by decide) (by decide) k) ?_
  show own_Fin p e below _ (T2.setTop (mkF m 14 #[.val (.ref w_COUNT)] []))
  refine own_st (fun t k => XS.aloadN X2.here hx rfl (hb hby d2_14) rfl rfl k) ?_
  show own_Fin p e below _ (T2.setTop (mkF m 15 #[.val (.ref w_COUNT)] [(.ref w_COUNT)]))
  obtain ⟨T3, X3, e3, st3⟩ := getS2 X2 hx hZ hown (host := "") (Or.inl (hw _ (List.mem_of_getElem? (i := 18) rfl))) Via.refl e2 S_RATE (g := (mkF m 15 #[.val (.ref w_COUNT)] [(.ref w_COUNT)])) rfl (hb hby d2_15)
  refine own_st st3 ?_
  show own_Fin p e below _ (T3.setTop (mkF m 18 #[.val (.ref w_COUNT)] [(.ref w_RATE), (.ref w_COUNT)]))
  refine own_st (fun t k => Jvm.RoadKit.acmp (g := (mkF m 18 #[.val (.ref w_COUNT)] [(.ref w_RATE), (.ref w_COUNT)])) X3 hx rfl rfl rfl (pc0 := 18) (pc' := 21) (same := false) rfl (hb hby d2_18) rfl (decide_eq_false fun q => (Fld.ne F_COUNT_ordinal F_RATE_ordinal (by simp)) (Value.ref.inj q)) (by decide) (by decide) k) ?_
  show own_Fin p e below _ (T3.setTop (mkF m 21 #[.val (.ref w_COUNT)] []))
  refine own_st (fun t k => XS.aloadN X3.here hx rfl (hb hby d2_21) rfl rfl k) ?_
  show own_Fin p e below _ (T3.setTop (mkF m 22 #[.val (.ref w_COUNT)] [(.ref w_COUNT)]))
  obtain ⟨T4, X4, e4, st4⟩ := getS2 X3 hx hZ hown (host := "") (Or.inl (hw _ (List.mem_of_getElem? (i := 20) rfl))) Via.refl e3 S_COUNT (g := (mkF m 22 #[.val (.ref w_COUNT)] [(.ref w_COUNT)])) rfl (hb hby d2_22)
  refine own_st st4 ?_
  show own_Fin p e below _ (T4.setTop (mkF m 25 #[.val (.ref w_COUNT)] [(.ref w_COUNT), (.ref w_COUNT)]))
  refine own_st (fun t k => Jvm.RoadKit.acmp (g := (mkF m 25 #[.val (.ref w_COUNT)] [(.ref w_COUNT), (.ref w_COUNT)])) X4 hx rfl rfl rfl (pc0 := 25) (pc' := 28) (same := true) rfl (hb hby d2_25) rfl (decide_eq_true rfl) (by decide) (by decide) k) ?_
  show own_Fin p e below _ (T4.setTop (mkF m 28 #[.val (.ref w_COUNT)] []))
  refine own_st (fun t k => XS.iconst X4.here hx rfl (hb hby d2_28) k) ?_
  show own_Fin p e below _ (T4.setTop (mkF m 29 #[.val (.ref w_COUNT)] [(.int (1 : Int32))]))
  refine own_st (fun t k => XS.goto X4.here hx rfl (pc0 := 29) (pc' := 33) rfl (hb hby d2_29) (by decide) (by decide) k) ?_
  show own_Fin p e below _ (T4.setTop (mkF m 33 #[.val (.ref w_COUNT)] [(.int (1 : Int32))]))
  obtain ⟨fs, hr, hrun, hended, hW, hsame⟩ := X4.leave (v := some (.int (1 : Int32))) (fun h => by rw [Bd.returns] at h; cases h)
  exact ⟨_, _, retN X4 hx (t := .boolean) Bd.returns (by simp) (hb hby d2_33) hr, hrun, hended, _, _, rfl, ⟨rfl, N0, e4⟩, ⟨_, rfl⟩, hW, hsame.mono (by decide) (by decide)⟩
set_option maxRecDepth 65536 in
set_option maxHeartbeats 40000000 in
theorem rm0_c3 (l : Launch) (Z : State) (a0 : Array Value) (hw : ∀ d ∈ tables_1, d.before a0 Z = true) (ws : List Jvm.Cond) (w_MONEY w_COUNT w_YEARS w_RATE w_FLAG w_DATE w_TABLE w_CHOICE w_MONTH : Addr) (p0 : Int32) (h0 : Heap) (n0 : Nat) (PN : own_Pins Z h0 w_MONEY w_COUNT w_YEARS w_RATE w_FLAG w_DATE w_TABLE w_CHOICE w_MONTH) (q0 : ((p0 &&& (2147483647 : Int32)) % (9 : Int32)) = (3 : Int32)) :
    MetFree l x (head1 (Jvm.Cond.code x code maxLocals ret :: ws) room_1) (fun a U => a = #[(.int p0)] ∧ Z.Warmed39 U.vm ∧ U.heap = h0) (fun _ _ _ _ _ => True) (fun _ U o U' => ∃ v L, o = .returned v ∧ own_Q h0 n0 (some (.int (1 : Int32))) v U'.heap L ∧ FrameEnd U o U' L room_1.cells room_1.slots) := by
  obtain ⟨S_MONEY, E_MONEY, S_COUNT, E_COUNT, S_YEARS, E_YEARS, S_RATE, E_RATE, S_FLAG, E_FLAG, S_DATE, E_DATE, S_TABLE, E_TABLE, S_CHOICE, E_CHOICE, S_MONTH, E_MONTH, F_COUNT_ordinal, F_MONEY_ordinal, F_YEARS_ordinal, F_RATE_ordinal, F_FLAG_ordinal, F_DATE_ordinal, F_TABLE_ordinal, F_CHOICE_ordinal, F_MONTH_ordinal⟩ := PN
  refine MetFree.of_bodySF (plainFor_of_name pn_com_example_vestry_vestry_model_KindIsNumberPinLaw) hisR ?_
  intro p e s m args below meth c s₁ Bd hml0 hP hK
  obtain ⟨rfl, hZ, hh⟩ := hP
  have hx := Bd.exec
  have hby := Bd.bytes
  have hml : c.maxLocals = 4 := hml0
  have hown : s.vm.findClass "com/example/vestry/vestry/model/KindIsNumberPinLaw" = some m.cls := findClass_of_methodNamed Bd.named
  have X0 : Stand p l e room_1 s m #[(.int p0)] below meth c s₁ [] 0 0 := Stand.of_body Bd
  have e0 : s₁.heap = h0 := by rw [← hh, Bd.state]; rfl
  have N0 := Fr.nil n0
  refine (?_ : own_Fin p e below _ _)
  refine own_st (fun t k => castTop (ef_0_I m p0) k) ?_
  show own_Fin p e below _ (s₁.setTop (mkF m 0 #[.val (.int p0), .unset, .unset, .unset] []))
  refine own_st (fun t k => XS.iloadN X0.here hx rfl (hb hby at_0) rfl k) ?_
  show own_Fin p e below _ (s₁.setTop (mkF m 1 #[.val (.int p0), .unset, .unset, .unset] [(.int p0)]))
  refine own_st (fun t k => X0.ldcI hx hown (mvT hZ (hw _ (List.mem_of_getElem? (i := 0) rfl))) rfl (hb hby at_1) k) ?_
  show own_Fin p e below _ (s₁.setTop (mkF m 3 #[.val (.int p0), .unset, .unset, .unset] [(.int (2147483647 : Int32)), (.int p0)]))
  refine own_st (fun t k => XS.iand X0.here hx rfl (hb hby at_3) rfl k) ?_
  show own_Fin p e below _ (s₁.setTop (mkF m 4 #[.val (.int p0), .unset, .unset, .unset] [(.int (p0 &&& (2147483647 : Int32)))]))
  refine own_st (fun t k => XS.bipush X0.here hx rfl (hb hby at_4) k) ?_
  show own_Fin p e below _ (s₁.setTop (mkF m 6 #[.val (.int p0), .unset, .unset, .unset] [(.int (9 : Int32)), (.int (p0 &&& (2147483647 : Int32)))]))
  refine own_st (fun t k => iremM X0 hx rfl (hb hby at_6) rfl (by decide) k) ?_
  show own_Fin p e below _ (s₁.setTop (mkF m 7 #[.val (.int p0), .unset, .unset, .unset] [(.int ((p0 &&& (2147483647 : Int32)) % (9 : Int32)))]))
  rw [q0]
  show own_Fin p e below _ (s₁.setTop (mkF m 7 #[.val (.int p0), .unset, .unset, .unset] [(.int (3 : Int32))]))
  refine own_st (fun t k => XS.istoreN X0.here hx rfl (hb hby at_7) rfl (l' := #[.val (.int p0), .val (.int (3 : Int32)), .unset, .unset]) rfl k) ?_
  show own_Fin p e below _ (s₁.setTop (mkF m 8 #[.val (.int p0), .val (.int (3 : Int32)), .unset, .unset] []))
  refine own_st (fun t k => XS.iloadN X0.here hx rfl (hb hby at_8) rfl k) ?_
  show own_Fin p e below _ (s₁.setTop (mkF m 9 #[.val (.int p0), .val (.int (3 : Int32)), .unset, .unset] [(.int (3 : Int32))]))
  obtain ⟨_, _, ⟨T1, L1, k1, n1⟩, -, X1, ⟨Lc1, hQ1, l1, y1, z1⟩, st1⟩ := Jvm.LawKit.callS X0 hx (y := (⟨"com/example/vestry/vestry/model/KindIsNumberPinLaw", "pick", "(I)Lcom/example/vestry/vestry/model/Kind;"⟩ : MethodName)) hown (mvT hZ (hw _ (List.mem_of_getElem? (i := 1) rfl))) (mvT hZ (hw _ (List.mem_of_getElem? (i := 2) rfl))) (mvT hZ (hw _ (List.mem_of_getElem? (i := 3) rfl))) (mvT hZ (hw _ (List.mem_of_getElem? (i := 4) rfl))) (by decide) (backOf (W := 0) (rm1_3 l Z a0 hw [] w_MONEY w_COUNT w_YEARS w_RATE w_FLAG w_DATE w_TABLE w_CHOICE w_MONTH h0 n0 (by exact ⟨S_MONEY, E_MONEY, S_COUNT, E_COUNT, S_YEARS, E_YEARS, S_RATE, E_RATE, S_FLAG, E_FLAG, S_DATE, E_DATE, S_TABLE, E_TABLE, S_CHOICE, E_CHOICE, S_MONTH, E_MONTH, F_COUNT_ordinal, F_MONEY_ordinal, F_YEARS_ordinal, F_RATE_ordinal, F_FLAG_ordinal, F_DATE_ordinal, F_TABLE_ordinal, F_CHOICE_ordinal, F_MONTH_ordinal⟩)) hZ (hw _ (List.mem_of_getElem? (i := 4) rfl)) (hw _ (List.mem_of_getElem? (i := 3) rfl)) (by decide) (by decide)) (g := (mkF m 9 #[.val (.int p0), .val (.int (3 : Int32)), .unset, .unset] [(.int (3 : Int32))])) rfl (by rw [hml]; rfl) (argsL := [(.int (3 : Int32))]) (rest := []) (lenOf pd__I_Lcom_example_vestry_vestry_model_Kind_ rfl) rfl (by show 2 * 0 + _ ≤ _; exact Nat.le_of_eq rfl) (hb hby at_9) (fun _ _ => ⟨rfl, e0, (by decide : 0 + 0 ≤ _), (by decide : 0 + 0 ≤ _)⟩)
  dsimp only [Pt.U, Pt.locs, Pt.cells, Pt.slots] at X1 l1 y1 z1 st1 hQ1
  subst l1 y1 z1
  obtain ⟨rfl, N1q, e1⟩ := hQ1
  have N1 := Fr.app N0 N1q
  refine own_st st1 ?_
  show own_Fin p e below _ (T1.setTop (mkF m 12 #[.val (.int p0), .val (.int (3 : Int32)), .unset, .unset] [(.ref w_COUNT)]))
  refine own_st (fun t k => XS.astoreN X1.here hx rfl (hb hby at_12) rfl rfl (l' := #[.val (.int p0), .val (.int (3 : Int32)), .val (.ref w_COUNT), .unset]) rfl k) ?_
  show own_Fin p e below _ (T1.setTop (mkF m 13 #[.val (.int p0), .val (.int (3 : Int32)), .val (.ref w_COUNT), .unset] []))
  refine own_st (fun t k => XS.iloadN X1.here hx rfl (hb hby at_13) rfl k) ?_
  show own_Fin p e below _ (T1.setTop (mkF m 14 #[.val (.int p0), .val (.int (3 : Int32)), .val (.ref w_COUNT), .unset] [(.int (3 : Int32))]))
  refine own_st (fun t k => XS.iconst X1.here hx rfl (hb hby at_14) k) ?_
  show own_Fin p e below _ (T1.setTop (mkF m 15 #[.val (.int p0), .val (.int (3 : Int32)), .val (.ref w_COUNT), .unset] [(.int (4 : Int32)), (.int (3 : Int32))]))
  refine own_st (fun t k => XS.icmpNo X1.here hx rfl (hb hby at_15) rfl (by decide) k) ?_
  show own_Fin p e below _ (T1.setTop (mkF m 18 #[.val (.int p0), .val (.int (3 : Int32)), .val (.ref w_COUNT), .unset] []))
  refine own_st (fun t k => XS.iconst X1.here hx rfl (hb hby at_18) k) ?_
  show own_Fin p e below _ (T1.setTop (mkF m 19 #[.val (.int p0), .val (.int (3 : Int32)), .val (.ref w_COUNT), .unset] [(.int (1 : Int32))]))
  refine own_st (fun t k => XS.goto X1.here hx rfl (pc0 := 19) (pc' := 23) rfl (hb hby at_19) (by decide) (by decide) k) ?_
  show own_Fin p e below _ (T1.setTop (mkF m 23 #[.val (.int p0), .val (.int (3 : Int32)), .val (.ref w_COUNT), .unset] [(.int (1 : Int32))]))
  refine own_st (fun t k => XS.istoreN X1.here hx rfl (hb hby at_23) rfl (l' := #[.val (.int p0), .val (.int (3 : Int32)), .val (.ref w_COUNT), .val (.int (1 : Int32))]) rfl k) ?_
  show own_Fin p e below _ (T1.setTop (mkF m 24 #[.val (.int p0), .val (.int (3 : Int32)), .val (.ref w_COUNT), .val (.int (1 : Int32))] []))
  refine own_st (fun t k => XS.aloadN X1.here hx rfl (hb hby at_24) rfl rfl k) ?_
  show own_Fin p e below _ (T1.setTop (mkF m 25 #[.val (.int p0), .val (.int (3 : Int32)), .val (.ref w_COUNT), .val (.int (1 : Int32))] [(.ref w_COUNT)]))
  obtain ⟨cq2, kq2, q2a, q2b, q2c⟩ := isOf hZ e1 E_COUNT
  obtain ⟨_, _, ⟨T2, L2, k2, n2⟩, -, X2, ⟨Lc2, hQ2, l2, y2, z2⟩, st2⟩ := X1.virtualBack hx (y := (⟨"com/example/vestry/vestry/model/Kind", "isNumber", "()Z"⟩ : MethodName)) (z := (⟨"com/example/vestry/vestry/model/Kind", "isNumber", "()Z"⟩ : MethodName)) hown (mvT hZ (hw _ (List.mem_of_getElem? (i := 8) rfl))) (mvT hZ (hw _ (List.mem_of_getElem? (i := 9) rfl))) (notFace_of_selects (args := #[]) (mvT hZ (hw _ (List.mem_of_getElem? (i := 11) rfl)))) (mvT hZ (hw _ (List.mem_of_getElem? (i := 11) rfl))) (mvT hZ (hw _ (List.mem_of_getElem? (i := 10) rfl))) (by decide) (backOf (W := 0) (rm2_w_COUNT l Z a0 hw [] w_MONEY w_COUNT w_YEARS w_RATE w_FLAG w_DATE w_TABLE w_CHOICE w_MONTH h0 n0 (by exact ⟨S_MONEY, E_MONEY, S_COUNT, E_COUNT, S_YEARS, E_YEARS, S_RATE, E_RATE, S_FLAG, E_FLAG, S_DATE, E_DATE, S_TABLE, E_TABLE, S_CHOICE, E_CHOICE, S_MONTH, E_MONTH, F_COUNT_ordinal, F_MONEY_ordinal, F_YEARS_ordinal, F_RATE_ordinal, F_FLAG_ordinal, F_DATE_ordinal, F_TABLE_ordinal, F_CHOICE_ordinal, F_MONTH_ordinal⟩)) hZ (hw _ (List.mem_of_getElem? (i := 12) rfl)) (hw _ (List.mem_of_getElem? (i := 6) rfl)) (by decide) (by decide)) q2a q2c (g := (mkF m 25 #[.val (.int p0), .val (.int (3 : Int32)), .val (.ref w_COUNT), .val (.int (1 : Int32))] [(.ref w_COUNT)])) rfl (by rw [hml]; rfl) (Steps.refl _) (argsL := []) (rest := []) (lenOf pd___Z rfl) rfl (by show 2 * 0 + _ ≤ _; exact Nat.le_of_eq rfl) (hb hby at_25) (fun _ _ => ⟨rfl, e1, (by decide : 0 + 0 ≤ _), (by decide : 0 + 0 ≤ _)⟩)
  dsimp only [Pt.U, Pt.locs, Pt.cells, Pt.slots] at X2 l2 y2 z2 st2 hQ2
  subst l2 y2 z2
  obtain ⟨rfl, N2q, e2⟩ := hQ2
  have N2 := Fr.app N1 N2q
  refine own_tr st2 ?_
  show own_Fin p e below _ (T2.setTop (mkF m 28 #[.val (.int p0), .val (.int (3 : Int32)), .val (.ref w_COUNT), .val (.int (1 : Int32))] [(.int (1 : Int32))]))
  refine own_st (fun t k => XS.iloadN X2.here hx rfl (hb hby at_28) rfl k) ?_
  show own_Fin p e below _ (T2.setTop (mkF m 29 #[.val (.int p0), .val (.int (3 : Int32)), .val (.ref w_COUNT), .val (.int (1 : Int32))] [(.int (1 : Int32)), (.int (1 : Int32))]))
  refine own_st (fun t k => XS.icmpNo X2.here hx rfl (hb hby at_29) rfl (by decide) k) ?_
  show own_Fin p e below _ (T2.setTop (mkF m 32 #[.val (.int p0), .val (.int (3 : Int32)), .val (.ref w_COUNT), .val (.int (1 : Int32))] []))
  refine own_st (fun t k => XS.iconst X2.here hx rfl (hb hby at_32) k) ?_
  show own_Fin p e below _ (T2.setTop (mkF m 33 #[.val (.int p0), .val (.int (3 : Int32)), .val (.ref w_COUNT), .val (.int (1 : Int32))] [(.int (1 : Int32))]))
  refine own_st (fun t k => XS.goto X2.here hx rfl (pc0 := 33) (pc' := 37) rfl (hb hby at_33) (by decide) (by decide) k) ?_
  show own_Fin p e below _ (T2.setTop (mkF m 37 #[.val (.int p0), .val (.int (3 : Int32)), .val (.ref w_COUNT), .val (.int (1 : Int32))] [(.int (1 : Int32))]))
  obtain ⟨fs, hr, hrun, hended, hW, hsame⟩ := X2.leave (v := some (.int (1 : Int32))) (fun h => by rw [Bd.returns] at h; cases h)
  exact ⟨_, _, retN X2 hx (t := .boolean) Bd.returns (by simp) (hb hby at_37) hr, hrun, hended, _, _, rfl, ⟨rfl, N2, e2⟩, ⟨_, rfl⟩, hW, hsame.mono (by decide) (by decide)⟩
theorem d1_35 : decode method_2_code 35 = .ok (.iload_n 0, 1) := by decide +kernel
theorem d1_36 : decode method_2_code 36 = .ok (.iconst 4, 1) := by decide +kernel
theorem d1_37 : decode method_2_code 37 = .ok (.if_icmp .ne 7, 3) := by decide +kernel
theorem d1_40 : decode method_2_code 40 = .ok (.getstatic 22, 3) := by decide +kernel
theorem d1_43 : decode method_2_code 43 = .ok (.areturn, 1) := by decide +kernel
set_option maxRecDepth 65536 in
set_option maxHeartbeats 40000000 in
theorem rm1_4 (l : Launch) (Z : State) (a0 : Array Value) (hw : ∀ d ∈ tables_1, d.before a0 Z = true) (ws : List Jvm.Cond) (w_MONEY w_COUNT w_YEARS w_RATE w_FLAG w_DATE w_TABLE w_CHOICE w_MONTH : Addr) (h0 : Heap) (n0 : Nat) (PN : own_Pins Z h0 w_MONEY w_COUNT w_YEARS w_RATE w_FLAG w_DATE w_TABLE w_CHOICE w_MONTH) :
    MetFree l (⟨"com/example/vestry/vestry/model/KindIsNumberPinLaw", "pick", "(I)Lcom/example/vestry/vestry/model/Kind;"⟩ : MethodName) (head1 (Jvm.Cond.code (⟨"com/example/vestry/vestry/model/KindIsNumberPinLaw", "pick", "(I)Lcom/example/vestry/vestry/model/Kind;"⟩ : MethodName) method_2_code 1 (some (.object "com/example/vestry/vestry/model/Kind")) :: ws) ({ frames := 0, cells := 0, slots := 0, locals := 0 } : Room)) (fun a U => a = #[(.int (4 : Int32))] ∧ Z.Warmed39 U.vm ∧ U.heap = h0) (fun _ _ _ _ _ => True) (fun _ U o U' => ∃ v L, o = .returned v ∧ own_Q h0 n0 (some (.ref w_DATE)) v U'.heap L ∧ FrameEnd U o U' L ({ frames := 0, cells := 0, slots := 0, locals := 0 } : Room).cells ({ frames := 0, cells := 0, slots := 0, locals := 0 } : Room).slots) := by
  obtain ⟨S_MONEY, E_MONEY, S_COUNT, E_COUNT, S_YEARS, E_YEARS, S_RATE, E_RATE, S_FLAG, E_FLAG, S_DATE, E_DATE, S_TABLE, E_TABLE, S_CHOICE, E_CHOICE, S_MONTH, E_MONTH, F_COUNT_ordinal, F_MONEY_ordinal, F_YEARS_ordinal, F_RATE_ordinal, F_FLAG_ordinal, F_DATE_ordinal, F_TABLE_ordinal, F_CHOICE_ordinal, F_MONTH_ordinal⟩ := PN
  refine MetFree.of_bodySF (plainFor_of_name pn_com_example_vestry_vestry_model_KindIsNumberPinLaw) hisR ?_
  intro p e s m args below meth c s₁ Bd hml0 hP hK
  obtain ⟨rfl, hZ, hh⟩ := hP
  have hx := Bd.exec
  have hby := Bd.bytes
  have hml : c.maxLocals = 1 := hml0
  have hown : s.vm.findClass "com/example/vestry/vestry/model/KindIsNumberPinLaw" = some m.cls := findClass_of_methodNamed Bd.named
  have X0 : Stand p l e ({ frames := 0, cells := 0, slots := 0, locals := 0 } : Room) s m #[(.int (4 : Int32))] below meth c s₁ [] 0 0 := Stand.of_body Bd
  have e0 : s₁.heap = h0 := by rw [← hh, Bd.state]; rfl
  have N0 := Fr.nil n0
  refine (?_ : own_Fin p e below _ _)
  refine own_st (fun t k => castTop (ef_1_I m (4 : Int32)) k) ?_
  show own_Fin p e below _ (s₁.setTop (mkF m 0 #[.val (.int (4 : Int32))] []))
  refine own_st (fun t k => XS.iloadN X0.here hx rfl (hb hby d1_0) rfl k) ?_
  show own_Fin p e below _ (s₁.setTop (mkF m 1 #[.val (.int (4 : Int32))] [(.int (4 : Int32))]))
  refine own_st (fun t k => XS.ifYes X0.here hx rfl (pc0 := 1) (pc' := 8) rfl (hb hby d1_1) rfl (by decide) (by decide) (by decide) k) ?_
  show own_Fin p e below _ (s₁.setTop (mkF m 8 #[.val (.int (4 : Int32))] []))
  refine own_st (fun t k => XS.iloadN X0.here hx rfl (hb hby d1_8) rfl k) ?_
  show own_Fin p e below _ (s₁.setTop (mkF m 9 #[.val (.int (4 : Int32))] [(.int (4 : Int32))]))
  refine own_st (fun t k => XS.iconst X0.here hx rfl (hb hby d1_9) k) ?_
  show own_Fin p e below _ (s₁.setTop (mkF m 10 #[.val (.int (4 : Int32))] [(.int (1 : Int32)), (.int (4 : Int32))]))
  refine own_st (fun t k => XS.icmpYes X0.here hx rfl (pc0 := 10) (pc' := 17) rfl (hb hby d1_10) rfl (by decide) (by decide) (by decide) k) ?_
  show own_Fin p e below _ (s₁.setTop (mkF m 17 #[.val (.int (4 : Int32))] []))
  refine own_st (fun t k => XS.iloadN X0.here hx rfl (hb hby d1_17) rfl k) ?_
  show own_Fin p e below _ (s₁.setTop (mkF m 18 #[.val (.int (4 : Int32))] [(.int (4 : Int32))]))
  refine own_st (fun t k => XS.iconst X0.here hx rfl (hb hby d1_18) k) ?_
  show own_Fin p e below _ (s₁.setTop (mkF m 19 #[.val (.int (4 : Int32))] [(.int (2 : Int32)), (.int (4 : Int32))]))
  refine own_st (fun t k => XS.icmpYes X0.here hx rfl (pc0 := 19) (pc' := 26) rfl (hb hby d1_19) rfl (by decide) (by decide) (by decide) k) ?_
  show own_Fin p e below _ (s₁.setTop (mkF m 26 #[.val (.int (4 : Int32))] []))
  refine own_st (fun t k => XS.iloadN X0.here hx rfl (hb hby d1_26) rfl k) ?_
  show own_Fin p e below _ (s₁.setTop (mkF m 27 #[.val (.int (4 : Int32))] [(.int (4 : Int32))]))
  refine own_st (fun t k => XS.iconst X0.here hx rfl (hb hby d1_27) k) ?_
  show own_Fin p e below _ (s₁.setTop (mkF m 28 #[.val (.int (4 : Int32))] [(.int (3 : Int32)), (.int (4 : Int32))]))
  refine own_st (fun t k => XS.icmpYes X0.here hx rfl (pc0 := 28) (pc' := 35) rfl (hb hby d1_28) rfl (by decide) (by decide) (by decide) k) ?_
  show own_Fin p e below _ (s₁.setTop (mkF m 35 #[.val (.int (4 : Int32))] []))
  refine own_st (fun t k => XS.iloadN X0.here hx rfl (hb hby d1_35) rfl k) ?_
  show own_Fin p e below _ (s₁.setTop (mkF m 36 #[.val (.int (4 : Int32))] [(.int (4 : Int32))]))
  refine own_st (fun t k => XS.iconst X0.here hx rfl (hb hby d1_36) k) ?_
  show own_Fin p e below _ (s₁.setTop (mkF m 37 #[.val (.int (4 : Int32))] [(.int (4 : Int32)), (.int (4 : Int32))]))
  refine own_st (fun t k => XS.icmpNo X0.here hx rfl (hb hby d1_37) rfl (by decide) k) ?_
  show own_Fin p e below _ (s₁.setTop (mkF m 40 #[.val (.int (4 : Int32))] []))
  obtain ⟨T1, X1, e1, st1⟩ := getS2 X0 hx hZ hown (host := "") (Or.inl (hw _ (List.mem_of_getElem? (i := 25) rfl))) Via.refl e0 S_DATE (g := (mkF m 40 #[.val (.int (4 : Int32))] [])) rfl (hb hby d1_40)
  refine own_st st1 ?_
  show own_Fin p e below _ (T1.setTop (mkF m 43 #[.val (.int (4 : Int32))] [(.ref w_DATE)]))
  obtain ⟨fs, hr, hrun, hended, hW, hsame⟩ := X1.leave (v := some (.ref w_DATE)) (fun h => by rw [Bd.returns] at h; cases h)
  exact ⟨_, _, retOut X1 hx (t := (.object "com/example/vestry/vestry/model/Kind")) Bd.returns rfl (Or.inr (Or.inr (Or.inr (Or.inr ⟨rfl, rfl, rfl⟩)))) (hb hby d1_43) hr, hrun, hended, _, _, rfl, ⟨rfl, N0, e1⟩, ⟨_, rfl⟩, hW, hsame.mono (by decide) (by decide)⟩
theorem d2_32 : decode prog_42_method_5_code 32 = .ok (.iconst 0, 1) := by decide +kernel
set_option maxRecDepth 65536 in
set_option maxHeartbeats 40000000 in
theorem rm2_w_DATE (l : Launch) (Z : State) (a0 : Array Value) (hw : ∀ d ∈ tables_1, d.before a0 Z = true) (ws : List Jvm.Cond) (w_MONEY w_COUNT w_YEARS w_RATE w_FLAG w_DATE w_TABLE w_CHOICE w_MONTH : Addr) (h0 : Heap) (n0 : Nat) (PN : own_Pins Z h0 w_MONEY w_COUNT w_YEARS w_RATE w_FLAG w_DATE w_TABLE w_CHOICE w_MONTH) :
    MetFree l (⟨"com/example/vestry/vestry/model/Kind", "isNumber", "()Z"⟩ : MethodName) (head1 (Jvm.Cond.code (⟨"com/example/vestry/vestry/model/Kind", "isNumber", "()Z"⟩ : MethodName) prog_42_method_5_code 1 (some .boolean) :: ws) ({ frames := 0, cells := 0, slots := 0, locals := 0 } : Room)) (fun a U => a = #[(.ref w_DATE)] ∧ Z.Warmed39 U.vm ∧ U.heap = h0) (fun _ _ _ _ _ => True) (fun _ U o U' => ∃ v L, o = .returned v ∧ own_Q h0 n0 (some (.int (0 : Int32))) v U'.heap L ∧ FrameEnd U o U' L ({ frames := 0, cells := 0, slots := 0, locals := 0 } : Room).cells ({ frames := 0, cells := 0, slots := 0, locals := 0 } : Room).slots) := by
  obtain ⟨S_MONEY, E_MONEY, S_COUNT, E_COUNT, S_YEARS, E_YEARS, S_RATE, E_RATE, S_FLAG, E_FLAG, S_DATE, E_DATE, S_TABLE, E_TABLE, S_CHOICE, E_CHOICE, S_MONTH, E_MONTH, F_COUNT_ordinal, F_MONEY_ordinal, F_YEARS_ordinal, F_RATE_ordinal, F_FLAG_ordinal, F_DATE_ordinal, F_TABLE_ordinal, F_CHOICE_ordinal, F_MONTH_ordinal⟩ := PN
  refine MetFree.of_bodySF (plainFor_of_name pn_com_example_vestry_vestry_model_Kind) hisR ?_
  intro p e s m args below meth c s₁ Bd hml0 hP hK
  obtain ⟨rfl, hZ, hh⟩ := hP
  have hx := Bd.exec
  have hby := Bd.bytes
  have hml : c.maxLocals = 1 := hml0
  have hown : s.vm.findClass "com/example/vestry/vestry/model/Kind" = some m.cls := findClass_of_methodNamed Bd.named
  have X0 : Stand p l e ({ frames := 0, cells := 0, slots := 0, locals := 0 } : Room) s m #[(.ref w_DATE)] below meth c s₁ [] 0 0 := Stand.of_body Bd
  have e0 : s₁.heap = h0 := by rw [← hh, Bd.state]; rfl
  have N0 := Fr.nil n0
  refine (?_ : own_Fin p e below _ _)
  refine own_st (fun t k => castTop (ef_2_R m w_DATE) k) ?_
  show own_Fin p e below _ (s₁.setTop (mkF m 0 #[.val (.ref w_DATE)] []))
  refine own_st (fun t k => XS.aloadN X0.here hx rfl (hb hby d2_0) rfl rfl k) ?_
  show own_Fin p e below _ (s₁.setTop (mkF m 1 #[.val (.ref w_DATE)] [(.ref w_DATE)]))
  obtain ⟨T1, X1, e1, st1⟩ := getS2 X0 hx hZ hown (host := "") (Or.inl (hw _ (List.mem_of_getElem? (i := 13) rfl))) Via.refl e0 S_MONEY (g := (mkF m 1 #[.val (.ref w_DATE)] [(.ref w_DATE)])) rfl (hb hby d2_1)
  refine own_st st1 ?_
  show own_Fin p e below _ (T1.setTop (mkF m 4 #[.val (.ref w_DATE)] [(.ref w_MONEY), (.ref w_DATE)]))
  refine own_st (fun t k => Jvm.RoadKit.acmp (g := (mkF m 4 #[.val (.ref w_DATE)] [(.ref w_MONEY), (.ref w_DATE)])) X1 hx rfl rfl rfl (pc0 := 4) (pc' := 7) (same := false) rfl (hb hby d2_4) rfl (decide_eq_false fun q => (Fld.ne F_DATE_ordinal F_MONEY_ordinal (by simp)) (Value.ref.inj q)) (by decide) (by decide) k) ?_
  show own_Fin p e below _ (T1.setTop (mkF m 7 #[.val (.ref w_DATE)] []))
  refine own_st (fun t k => XS.aloadN X1.here hx rfl (hb hby d2_7) rfl rfl k) ?_
  show own_Fin p e below _ (T1.setTop (mkF m 8 #[.val (.ref w_DATE)] [(.ref w_DATE)]))
  obtain ⟨T2, X2, e2, st2⟩ := getS2 X1 hx hZ hown (host := "") (Or.inl (hw _ (List.mem_of_getElem? (i := 16) rfl))) Via.refl e1 S_YEARS (g := (mkF m 8 #[.val (.ref w_DATE)] [(.ref w_DATE)])) rfl (hb hby d2_8)
  refine own_st st2 ?_
  show own_Fin p e below _ (T2.setTop (mkF m 11 #[.val (.ref w_DATE)] [(.ref w_YEARS), (.ref w_DATE)]))
  refine own_st (fun t k => Jvm.RoadKit.acmp (g := (mkF m 11 #[.val (.ref w_DATE)] [(.ref w_YEARS), (.ref w_DATE)])) X2 hx rfl rfl rfl (pc0 := 11) (pc' := 14) (same := false) rfl (hb hby d2_11) rfl (decide_eq_false fun q => (Fld.ne F_DATE_ordinal F_YEARS_ordinal (by simp)) (Value.ref.inj q)) (by decide) (by decide) k) ?_
  show own_Fin p e below _ (T2.setTop (mkF m 14 #[.val (.ref w_DATE)] []))
  refine own_st (fun t k => XS.aloadN X2.here hx rfl (hb hby d2_14) rfl rfl k) ?_
  show own_Fin p e below _ (T2.setTop (mkF m 15 #[.val (.ref w_DATE)] [(.ref w_DATE)]))
  obtain ⟨T3, X3, e3, st3⟩ := getS2 X2 hx hZ hown (host := "") (Or.inl (hw _ (List.mem_of_getElem? (i := 18) rfl))) Via.refl e2 S_RATE (g := (mkF m 15 #[.val (.ref w_DATE)] [(.ref w_DATE)])) rfl (hb hby d2_15)
  refine own_st st3 ?_
  show own_Fin p e below _ (T3.setTop (mkF m 18 #[.val (.ref w_DATE)] [(.ref w_RATE), (.ref w_DATE)]))
  refine own_st (fun t k => Jvm.RoadKit.acmp (g := (mkF m 18 #[.val (.ref w_DATE)] [(.ref w_RATE), (.ref w_DATE)])) X3 hx rfl rfl rfl (pc0 := 18) (pc' := 21) (same := false) rfl (hb hby d2_18) rfl (decide_eq_false fun q => (Fld.ne F_DATE_ordinal F_RATE_ordinal (by simp)) (Value.ref.inj q)) (by decide) (by decide) k) ?_
  show own_Fin p e below _ (T3.setTop (mkF m 21 #[.val (.ref w_DATE)] []))
  refine own_st (fun t k => XS.aloadN X3.here hx rfl (hb hby d2_21) rfl rfl k) ?_
  show own_Fin p e below _ (T3.setTop (mkF m 22 #[.val (.ref w_DATE)] [(.ref w_DATE)]))
  obtain ⟨T4, X4, e4, st4⟩ := getS2 X3 hx hZ hown (host := "") (Or.inl (hw _ (List.mem_of_getElem? (i := 20) rfl))) Via.refl e3 S_COUNT (g := (mkF m 22 #[.val (.ref w_DATE)] [(.ref w_DATE)])) rfl (hb hby d2_22)
  refine own_st st4 ?_
  show own_Fin p e below _ (T4.setTop (mkF m 25 #[.val (.ref w_DATE)] [(.ref w_COUNT), (.ref w_DATE)]))
  refine own_st (fun t k => Jvm.RoadKit.acmp (g := (mkF m 25 #[.val (.ref w_DATE)] [(.ref w_COUNT), (.ref w_DATE)])) X4 hx rfl rfl rfl (pc0 := 25) (pc' := 32) (same := false) rfl (hb hby d2_25) rfl (decide_eq_false fun q => (Fld.ne F_DATE_ordinal F_COUNT_ordinal (by simp)) (Value.ref.inj q)) (by decide) (by decide) k) ?_
  show own_Fin p e below _ (T4.setTop (mkF m 32 #[.val (.ref w_DATE)] []))
  refine own_st (fun t k => XS.iconst X4.here hx rfl (hb hby d2_32) k) ?_
  show own_Fin p e below _ (T4.setTop (mkF m 33 #[.val (.ref w_DATE)] [(.int (0 : Int32))]))
  obtain ⟨fs, hr, hrun, hended, hW, hsame⟩ := X4.leave (v := some (.int (0 : Int32))) (fun h => by rw [Bd.returns] at h; cases h)
  exact ⟨_, _, retN X4 hx (t := .boolean) Bd.returns (by simp) (hb hby d2_33) hr, hrun, hended, _, _, rfl, ⟨rfl, N0, e4⟩, ⟨_, rfl⟩, hW, hsame.mono (by decide) (by decide)⟩
set_option maxRecDepth 65536 in
set_option maxHeartbeats 40000000 in
theorem rm0_c4 (l : Launch) (Z : State) (a0 : Array Value) (hw : ∀ d ∈ tables_1, d.before a0 Z = true) (ws : List Jvm.Cond) (w_MONEY w_COUNT w_YEARS w_RATE w_FLAG w_DATE w_TABLE w_CHOICE w_MONTH : Addr) (p0 : Int32) (h0 : Heap) (n0 : Nat) (PN : own_Pins Z h0 w_MONEY w_COUNT w_YEARS w_RATE w_FLAG w_DATE w_TABLE w_CHOICE w_MONTH) (q0 : ((p0 &&& (2147483647 : Int32)) % (9 : Int32)) = (4 : Int32)) :
    MetFree l x (head1 (Jvm.Cond.code x code maxLocals ret :: ws) room_1) (fun a U => a = #[(.int p0)] ∧ Z.Warmed39 U.vm ∧ U.heap = h0) (fun _ _ _ _ _ => True) (fun _ U o U' => ∃ v L, o = .returned v ∧ own_Q h0 n0 (some (.int (1 : Int32))) v U'.heap L ∧ FrameEnd U o U' L room_1.cells room_1.slots) := by
  obtain ⟨S_MONEY, E_MONEY, S_COUNT, E_COUNT, S_YEARS, E_YEARS, S_RATE, E_RATE, S_FLAG, E_FLAG, S_DATE, E_DATE, S_TABLE, E_TABLE, S_CHOICE, E_CHOICE, S_MONTH, E_MONTH, F_COUNT_ordinal, F_MONEY_ordinal, F_YEARS_ordinal, F_RATE_ordinal, F_FLAG_ordinal, F_DATE_ordinal, F_TABLE_ordinal, F_CHOICE_ordinal, F_MONTH_ordinal⟩ := PN
  refine MetFree.of_bodySF (plainFor_of_name pn_com_example_vestry_vestry_model_KindIsNumberPinLaw) hisR ?_
  intro p e s m args below meth c s₁ Bd hml0 hP hK
  obtain ⟨rfl, hZ, hh⟩ := hP
  have hx := Bd.exec
  have hby := Bd.bytes
  have hml : c.maxLocals = 4 := hml0
  have hown : s.vm.findClass "com/example/vestry/vestry/model/KindIsNumberPinLaw" = some m.cls := findClass_of_methodNamed Bd.named
  have X0 : Stand p l e room_1 s m #[(.int p0)] below meth c s₁ [] 0 0 := Stand.of_body Bd
  have e0 : s₁.heap = h0 := by rw [← hh, Bd.state]; rfl
  have N0 := Fr.nil n0
  refine (?_ : own_Fin p e below _ _)
  refine own_st (fun t k => castTop (ef_0_I m p0) k) ?_
  show own_Fin p e below _ (s₁.setTop (mkF m 0 #[.val (.int p0), .unset, .unset, .unset] []))
  refine own_st (fun t k => XS.iloadN X0.here hx rfl (hb hby at_0) rfl k) ?_
  show own_Fin p e below _ (s₁.setTop (mkF m 1 #[.val (.int p0), .unset, .unset, .unset] [(.int p0)]))
  refine own_st (fun t k => X0.ldcI hx hown (mvT hZ (hw _ (List.mem_of_getElem? (i := 0) rfl))) rfl (hb hby at_1) k) ?_
  show own_Fin p e below _ (s₁.setTop (mkF m 3 #[.val (.int p0), .unset, .unset, .unset] [(.int (2147483647 : Int32)), (.int p0)]))
  refine own_st (fun t k => XS.iand X0.here hx rfl (hb hby at_3) rfl k) ?_
  show own_Fin p e below _ (s₁.setTop (mkF m 4 #[.val (.int p0), .unset, .unset, .unset] [(.int (p0 &&& (2147483647 : Int32)))]))
  refine own_st (fun t k => XS.bipush X0.here hx rfl (hb hby at_4) k) ?_
  show own_Fin p e below _ (s₁.setTop (mkF m 6 #[.val (.int p0), .unset, .unset, .unset] [(.int (9 : Int32)), (.int (p0 &&& (2147483647 : Int32)))]))
  refine own_st (fun t k => iremM X0 hx rfl (hb hby at_6) rfl (by decide) k) ?_
  show own_Fin p e below _ (s₁.setTop (mkF m 7 #[.val (.int p0), .unset, .unset, .unset] [(.int ((p0 &&& (2147483647 : Int32)) % (9 : Int32)))]))
  rw [q0]
  show own_Fin p e below _ (s₁.setTop (mkF m 7 #[.val (.int p0), .unset, .unset, .unset] [(.int (4 : Int32))]))
  refine own_st (fun t k => XS.istoreN X0.here hx rfl (hb hby at_7) rfl (l' := #[.val (.int p0), .val (.int (4 : Int32)), .unset, .unset]) rfl k) ?_
  show own_Fin p e below _ (s₁.setTop (mkF m 8 #[.val (.int p0), .val (.int (4 : Int32)), .unset, .unset] []))
  refine own_st (fun t k => XS.iloadN X0.here hx rfl (hb hby at_8) rfl k) ?_
  show own_Fin p e below _ (s₁.setTop (mkF m 9 #[.val (.int p0), .val (.int (4 : Int32)), .unset, .unset] [(.int (4 : Int32))]))
  obtain ⟨_, _, ⟨T1, L1, k1, n1⟩, -, X1, ⟨Lc1, hQ1, l1, y1, z1⟩, st1⟩ := Jvm.LawKit.callS X0 hx (y := (⟨"com/example/vestry/vestry/model/KindIsNumberPinLaw", "pick", "(I)Lcom/example/vestry/vestry/model/Kind;"⟩ : MethodName)) hown (mvT hZ (hw _ (List.mem_of_getElem? (i := 1) rfl))) (mvT hZ (hw _ (List.mem_of_getElem? (i := 2) rfl))) (mvT hZ (hw _ (List.mem_of_getElem? (i := 3) rfl))) (mvT hZ (hw _ (List.mem_of_getElem? (i := 4) rfl))) (by decide) (backOf (W := 0) (rm1_4 l Z a0 hw [] w_MONEY w_COUNT w_YEARS w_RATE w_FLAG w_DATE w_TABLE w_CHOICE w_MONTH h0 n0 (by exact ⟨S_MONEY, E_MONEY, S_COUNT, E_COUNT, S_YEARS, E_YEARS, S_RATE, E_RATE, S_FLAG, E_FLAG, S_DATE, E_DATE, S_TABLE, E_TABLE, S_CHOICE, E_CHOICE, S_MONTH, E_MONTH, F_COUNT_ordinal, F_MONEY_ordinal, F_YEARS_ordinal, F_RATE_ordinal, F_FLAG_ordinal, F_DATE_ordinal, F_TABLE_ordinal, F_CHOICE_ordinal, F_MONTH_ordinal⟩)) hZ (hw _ (List.mem_of_getElem? (i := 4) rfl)) (hw _ (List.mem_of_getElem? (i := 3) rfl)) (by decide) (by decide)) (g := (mkF m 9 #[.val (.int p0), .val (.int (4 : Int32)), .unset, .unset] [(.int (4 : Int32))])) rfl (by rw [hml]; rfl) (argsL := [(.int (4 : Int32))]) (rest := []) (lenOf pd__I_Lcom_example_vestry_vestry_model_Kind_ rfl) rfl (by show 2 * 0 + _ ≤ _; exact Nat.le_of_eq rfl) (hb hby at_9) (fun _ _ => ⟨rfl, e0, (by decide : 0 + 0 ≤ _), (by decide : 0 + 0 ≤ _)⟩)
  dsimp only [Pt.U, Pt.locs, Pt.cells, Pt.slots] at X1 l1 y1 z1 st1 hQ1
  subst l1 y1 z1
  obtain ⟨rfl, N1q, e1⟩ := hQ1
  have N1 := Fr.app N0 N1q
  refine own_st st1 ?_
  show own_Fin p e below _ (T1.setTop (mkF m 12 #[.val (.int p0), .val (.int (4 : Int32)), .unset, .unset] [(.ref w_DATE)]))
  refine own_st (fun t k => XS.astoreN X1.here hx rfl (hb hby at_12) rfl rfl (l' := #[.val (.int p0), .val (.int (4 : Int32)), .val (.ref w_DATE), .unset]) rfl k) ?_
  show own_Fin p e below _ (T1.setTop (mkF m 13 #[.val (.int p0), .val (.int (4 : Int32)), .val (.ref w_DATE), .unset] []))
  refine own_st (fun t k => XS.iloadN X1.here hx rfl (hb hby at_13) rfl k) ?_
  show own_Fin p e below _ (T1.setTop (mkF m 14 #[.val (.int p0), .val (.int (4 : Int32)), .val (.ref w_DATE), .unset] [(.int (4 : Int32))]))
  refine own_st (fun t k => XS.iconst X1.here hx rfl (hb hby at_14) k) ?_
  show own_Fin p e below _ (T1.setTop (mkF m 15 #[.val (.int p0), .val (.int (4 : Int32)), .val (.ref w_DATE), .unset] [(.int (4 : Int32)), (.int (4 : Int32))]))
  refine own_st (fun t k => XS.icmpYes X1.here hx rfl (pc0 := 15) (pc' := 22) rfl (hb hby at_15) rfl (by decide) (by decide) (by decide) k) ?_
  show own_Fin p e below _ (T1.setTop (mkF m 22 #[.val (.int p0), .val (.int (4 : Int32)), .val (.ref w_DATE), .unset] []))
  refine own_st (fun t k => XS.iconst X1.here hx rfl (hb hby at_22) k) ?_
  show own_Fin p e below _ (T1.setTop (mkF m 23 #[.val (.int p0), .val (.int (4 : Int32)), .val (.ref w_DATE), .unset] [(.int (0 : Int32))]))
  refine own_st (fun t k => XS.istoreN X1.here hx rfl (hb hby at_23) rfl (l' := #[.val (.int p0), .val (.int (4 : Int32)), .val (.ref w_DATE), .val (.int (0 : Int32))]) rfl k) ?_
  show own_Fin p e below _ (T1.setTop (mkF m 24 #[.val (.int p0), .val (.int (4 : Int32)), .val (.ref w_DATE), .val (.int (0 : Int32))] []))
  refine own_st (fun t k => XS.aloadN X1.here hx rfl (hb hby at_24) rfl rfl k) ?_
  show own_Fin p e below _ (T1.setTop (mkF m 25 #[.val (.int p0), .val (.int (4 : Int32)), .val (.ref w_DATE), .val (.int (0 : Int32))] [(.ref w_DATE)]))
  obtain ⟨cq2, kq2, q2a, q2b, q2c⟩ := isOf hZ e1 E_DATE
  obtain ⟨_, _, ⟨T2, L2, k2, n2⟩, -, X2, ⟨Lc2, hQ2, l2, y2, z2⟩, st2⟩ := X1.virtualBack hx (y := (⟨"com/example/vestry/vestry/model/Kind", "isNumber", "()Z"⟩ : MethodName)) (z := (⟨"com/example/vestry/vestry/model/Kind", "isNumber", "()Z"⟩ : MethodName)) hown (mvT hZ (hw _ (List.mem_of_getElem? (i := 8) rfl))) (mvT hZ (hw _ (List.mem_of_getElem? (i := 9) rfl))) (notFace_of_selects (args := #[]) (mvT hZ (hw _ (List.mem_of_getElem? (i := 11) rfl)))) (mvT hZ (hw _ (List.mem_of_getElem? (i := 11) rfl))) (mvT hZ (hw _ (List.mem_of_getElem? (i := 10) rfl))) (by decide) (backOf (W := 0) (rm2_w_DATE l Z a0 hw [] w_MONEY w_COUNT w_YEARS w_RATE w_FLAG w_DATE w_TABLE w_CHOICE w_MONTH h0 n0 (by exact ⟨S_MONEY, E_MONEY, S_COUNT, E_COUNT, S_YEARS, E_YEARS, S_RATE, E_RATE, S_FLAG, E_FLAG, S_DATE, E_DATE, S_TABLE, E_TABLE, S_CHOICE, E_CHOICE, S_MONTH, E_MONTH, F_COUNT_ordinal, F_MONEY_ordinal, F_YEARS_ordinal, F_RATE_ordinal, F_FLAG_ordinal, F_DATE_ordinal, F_TABLE_ordinal, F_CHOICE_ordinal, F_MONTH_ordinal⟩)) hZ (hw _ (List.mem_of_getElem? (i := 12) rfl)) (hw _ (List.mem_of_getElem? (i := 6) rfl)) (by decide) (by decide)) q2a q2c (g := (mkF m 25 #[.val (.int p0), .val (.int (4 : Int32)), .val (.ref w_DATE), .val (.int (0 : Int32))] [(.ref w_DATE)])) rfl (by rw [hml]; rfl) (Steps.refl _) (argsL := []) (rest := []) (lenOf pd___Z rfl) rfl (by show 2 * 0 + _ ≤ _; exact Nat.le_of_eq rfl) (hb hby at_25) (fun _ _ => ⟨rfl, e1, (by decide : 0 + 0 ≤ _), (by decide : 0 + 0 ≤ _)⟩)
  dsimp only [Pt.U, Pt.locs, Pt.cells, Pt.slots] at X2 l2 y2 z2 st2 hQ2
  subst l2 y2 z2
  obtain ⟨rfl, N2q, e2⟩ := hQ2
  have N2 := Fr.app N1 N2q
  refine own_tr st2 ?_
  show own_Fin p e below _ (T2.setTop (mkF m 28 #[.val (.int p0), .val (.int (4 : Int32)), .val (.ref w_DATE), .val (.int (0 : Int32))] [(.int (0 : Int32))]))
  refine own_st (fun t k => XS.iloadN X2.here hx rfl (hb hby at_28) rfl k) ?_
  show own_Fin p e below _ (T2.setTop (mkF m 29 #[.val (.int p0), .val (.int (4 : Int32)), .val (.ref w_DATE), .val (.int (0 : Int32))] [(.int (0 : Int32)), (.int (0 : Int32))]))
  refine own_st (fun t k => XS.icmpNo X2.here hx rfl (hb hby at_29) rfl (by decide) k) ?_
  show own_Fin p e below _ (T2.setTop (mkF m 32 #[.val (.int p0), .val (.int (4 : Int32)), .val (.ref w_DATE), .val (.int (0 : Int32))] []))
  refine own_st (fun t k => XS.iconst X2.here hx rfl (hb hby at_32) k) ?_
  show own_Fin p e below _ (T2.setTop (mkF m 33 #[.val (.int p0), .val (.int (4 : Int32)), .val (.ref w_DATE), .val (.int (0 : Int32))] [(.int (1 : Int32))]))
  refine own_st (fun t k => XS.goto X2.here hx rfl (pc0 := 33) (pc' := 37) rfl (hb hby at_33) (by decide) (by decide) k) ?_
  show own_Fin p e below _ (T2.setTop (mkF m 37 #[.val (.int p0), .val (.int (4 : Int32)), .val (.ref w_DATE), .val (.int (0 : Int32))] [(.int (1 : Int32))]))
  obtain ⟨fs, hr, hrun, hended, hW, hsame⟩ := X2.leave (v := some (.int (1 : Int32))) (fun h => by rw [Bd.returns] at h; cases h)
  exact ⟨_, _, retN X2 hx (t := .boolean) Bd.returns (by simp) (hb hby at_37) hr, hrun, hended, _, _, rfl, ⟨rfl, N2, e2⟩, ⟨_, rfl⟩, hW, hsame.mono (by decide) (by decide)⟩
theorem d1_44 : decode method_2_code 44 = .ok (.iload_n 0, 1) := by decide +kernel
theorem d1_45 : decode method_2_code 45 = .ok (.iconst 5, 1) := by decide +kernel
theorem d1_46 : decode method_2_code 46 = .ok (.if_icmp .ne 7, 3) := by decide +kernel
theorem d1_49 : decode method_2_code 49 = .ok (.getstatic 25, 3) := by decide +kernel
theorem d1_52 : decode method_2_code 52 = .ok (.areturn, 1) := by decide +kernel
set_option maxRecDepth 65536 in
set_option maxHeartbeats 40000000 in
theorem rm1_5 (l : Launch) (Z : State) (a0 : Array Value) (hw : ∀ d ∈ tables_1, d.before a0 Z = true) (ws : List Jvm.Cond) (w_MONEY w_COUNT w_YEARS w_RATE w_FLAG w_DATE w_TABLE w_CHOICE w_MONTH : Addr) (h0 : Heap) (n0 : Nat) (PN : own_Pins Z h0 w_MONEY w_COUNT w_YEARS w_RATE w_FLAG w_DATE w_TABLE w_CHOICE w_MONTH) :
    MetFree l (⟨"com/example/vestry/vestry/model/KindIsNumberPinLaw", "pick", "(I)Lcom/example/vestry/vestry/model/Kind;"⟩ : MethodName) (head1 (Jvm.Cond.code (⟨"com/example/vestry/vestry/model/KindIsNumberPinLaw", "pick", "(I)Lcom/example/vestry/vestry/model/Kind;"⟩ : MethodName) method_2_code 1 (some (.object "com/example/vestry/vestry/model/Kind")) :: ws) ({ frames := 0, cells := 0, slots := 0, locals := 0 } : Room)) (fun a U => a = #[(.int (5 : Int32))] ∧ Z.Warmed39 U.vm ∧ U.heap = h0) (fun _ _ _ _ _ => True) (fun _ U o U' => ∃ v L, o = .returned v ∧ own_Q h0 n0 (some (.ref w_MONTH)) v U'.heap L ∧ FrameEnd U o U' L ({ frames := 0, cells := 0, slots := 0, locals := 0 } : Room).cells ({ frames := 0, cells := 0, slots := 0, locals := 0 } : Room).slots) := by
  obtain ⟨S_MONEY, E_MONEY, S_COUNT, E_COUNT, S_YEARS, E_YEARS, S_RATE, E_RATE, S_FLAG, E_FLAG, S_DATE, E_DATE, S_TABLE, E_TABLE, S_CHOICE, E_CHOICE, S_MONTH, E_MONTH, F_COUNT_ordinal, F_MONEY_ordinal, F_YEARS_ordinal, F_RATE_ordinal, F_FLAG_ordinal, F_DATE_ordinal, F_TABLE_ordinal, F_CHOICE_ordinal, F_MONTH_ordinal⟩ := PN
  refine MetFree.of_bodySF (plainFor_of_name pn_com_example_vestry_vestry_model_KindIsNumberPinLaw) hisR ?_
  intro p e s m args below meth c s₁ Bd hml0 hP hK
  obtain ⟨rfl, hZ, hh⟩ := hP
  have hx := Bd.exec
  have hby := Bd.bytes
  have hml : c.maxLocals = 1 := hml0
  have hown : s.vm.findClass "com/example/vestry/vestry/model/KindIsNumberPinLaw" = some m.cls := findClass_of_methodNamed Bd.named
  have X0 : Stand p l e ({ frames := 0, cells := 0, slots := 0, locals := 0 } : Room) s m #[(.int (5 : Int32))] below meth c s₁ [] 0 0 := Stand.of_body Bd
  have e0 : s₁.heap = h0 := by rw [← hh, Bd.state]; rfl
  have N0 := Fr.nil n0
  refine (?_ : own_Fin p e below _ _)
  refine own_st (fun t k => castTop (ef_1_I m (5 : Int32)) k) ?_
  show own_Fin p e below _ (s₁.setTop (mkF m 0 #[.val (.int (5 : Int32))] []))
  refine own_st (fun t k => XS.iloadN X0.here hx rfl (hb hby d1_0) rfl k) ?_
  show own_Fin p e below _ (s₁.setTop (mkF m 1 #[.val (.int (5 : Int32))] [(.int (5 : Int32))]))
  refine own_st (fun t k => XS.ifYes X0.here hx rfl (pc0 := 1) (pc' := 8) rfl (hb hby d1_1) rfl (by decide) (by decide) (by decide) k) ?_
  show own_Fin p e below _ (s₁.setTop (mkF m 8 #[.val (.int (5 : Int32))] []))
  refine own_st (fun t k => XS.iloadN X0.here hx rfl (hb hby d1_8) rfl k) ?_
  show own_Fin p e below _ (s₁.setTop (mkF m 9 #[.val (.int (5 : Int32))] [(.int (5 : Int32))]))
  refine own_st (fun t k => XS.iconst X0.here hx rfl (hb hby d1_9) k) ?_
  show own_Fin p e below _ (s₁.setTop (mkF m 10 #[.val (.int (5 : Int32))] [(.int (1 : Int32)), (.int (5 : Int32))]))
  refine own_st (fun t k => XS.icmpYes X0.here hx rfl (pc0 := 10) (pc' := 17) rfl (hb hby d1_10) rfl (by decide) (by decide) (by decide) k) ?_
  show own_Fin p e below _ (s₁.setTop (mkF m 17 #[.val (.int (5 : Int32))] []))
  refine own_st (fun t k => XS.iloadN X0.here hx rfl (hb hby d1_17) rfl k) ?_
  show own_Fin p e below _ (s₁.setTop (mkF m 18 #[.val (.int (5 : Int32))] [(.int (5 : Int32))]))
  refine own_st (fun t k => XS.iconst X0.here hx rfl (hb hby d1_18) k) ?_
  show own_Fin p e below _ (s₁.setTop (mkF m 19 #[.val (.int (5 : Int32))] [(.int (2 : Int32)), (.int (5 : Int32))]))
  refine own_st (fun t k => XS.icmpYes X0.here hx rfl (pc0 := 19) (pc' := 26) rfl (hb hby d1_19) rfl (by decide) (by decide) (by decide) k) ?_
  show own_Fin p e below _ (s₁.setTop (mkF m 26 #[.val (.int (5 : Int32))] []))
  refine own_st (fun t k => XS.iloadN X0.here hx rfl (hb hby d1_26) rfl k) ?_
  show own_Fin p e below _ (s₁.setTop (mkF m 27 #[.val (.int (5 : Int32))] [(.int (5 : Int32))]))
  refine own_st (fun t k => XS.iconst X0.here hx rfl (hb hby d1_27) k) ?_
  show own_Fin p e below _ (s₁.setTop (mkF m 28 #[.val (.int (5 : Int32))] [(.int (3 : Int32)), (.int (5 : Int32))]))
  refine own_st (fun t k => XS.icmpYes X0.here hx rfl (pc0 := 28) (pc' := 35) rfl (hb hby d1_28) rfl (by decide) (by decide) (by decide) k) ?_
  show own_Fin p e below _ (s₁.setTop (mkF m 35 #[.val (.int (5 : Int32))] []))
  refine own_st (fun t k => XS.iloadN X0.here hx rfl (hb hby d1_35) rfl k) ?_
  show own_Fin p e below _ (s₁.setTop (mkF m 36 #[.val (.int (5 : Int32))] [(.int (5 : Int32))]))
  refine own_st (fun t k => XS.iconst X0.here hx rfl (hb hby d1_36) k) ?_
  show own_Fin p e below _ (s₁.setTop (mkF m 37 #[.val (.int (5 : Int32))] [(.int (4 : Int32)), (.int (5 : Int32))]))
  refine own_st (fun t k => XS.icmpYes X0.here hx rfl (pc0 := 37) (pc' := 44) rfl (hb hby d1_37) rfl (by decide) (by decide) (by decide) k) ?_
  show own_Fin p e below _ (s₁.setTop (mkF m 44 #[.val (.int (5 : Int32))] []))
  refine own_st (fun t k => XS.iloadN X0.here hx rfl (hb hby d1_44) rfl k) ?_
  show own_Fin p e below _ (s₁.setTop (mkF m 45 #[.val (.int (5 : Int32))] [(.int (5 : Int32))]))
  refine own_st (fun t k => XS.iconst X0.here hx rfl (hb hby d1_45) k) ?_
  show own_Fin p e below _ (s₁.setTop (mkF m 46 #[.val (.int (5 : Int32))] [(.int (5 : Int32)), (.int (5 : Int32))]))
  refine own_st (fun t k => XS.icmpNo X0.here hx rfl (hb hby d1_46) rfl (by decide) k) ?_
  show own_Fin p e below _ (s₁.setTop (mkF m 49 #[.val (.int (5 : Int32))] []))
  obtain ⟨T1, X1, e1, st1⟩ := getS2 X0 hx hZ hown (host := "") (Or.inl (hw _ (List.mem_of_getElem? (i := 31) rfl))) Via.refl e0 S_MONTH (g := (mkF m 49 #[.val (.int (5 : Int32))] [])) rfl (hb hby d1_49)
  refine own_st st1 ?_
  show own_Fin p e below _ (T1.setTop (mkF m 52 #[.val (.int (5 : Int32))] [(.ref w_MONTH)]))
  obtain ⟨fs, hr, hrun, hended, hW, hsame⟩ := X1.leave (v := some (.ref w_MONTH)) (fun h => by rw [Bd.returns] at h; cases h)
  exact ⟨_, _, retOut X1 hx (t := (.object "com/example/vestry/vestry/model/Kind")) Bd.returns rfl (Or.inr (Or.inr (Or.inr (Or.inr ⟨rfl, rfl, rfl⟩)))) (hb hby d1_52) hr, hrun, hended, _, _, rfl, ⟨rfl, N0, e1⟩, ⟨_, rfl⟩, hW, hsame.mono (by decide) (by decide)⟩
set_option maxRecDepth 65536 in
set_option maxHeartbeats 40000000 in
theorem rm2_w_MONTH (l : Launch) (Z : State) (a0 : Array Value) (hw : ∀ d ∈ tables_1, d.before a0 Z = true) (ws : List Jvm.Cond) (w_MONEY w_COUNT w_YEARS w_RATE w_FLAG w_DATE w_TABLE w_CHOICE w_MONTH : Addr) (h0 : Heap) (n0 : Nat) (PN : own_Pins Z h0 w_MONEY w_COUNT w_YEARS w_RATE w_FLAG w_DATE w_TABLE w_CHOICE w_MONTH) :
    MetFree l (⟨"com/example/vestry/vestry/model/Kind", "isNumber", "()Z"⟩ : MethodName) (head1 (Jvm.Cond.code (⟨"com/example/vestry/vestry/model/Kind", "isNumber", "()Z"⟩ : MethodName) prog_42_method_5_code 1 (some .boolean) :: ws) ({ frames := 0, cells := 0, slots := 0, locals := 0 } : Room)) (fun a U => a = #[(.ref w_MONTH)] ∧ Z.Warmed39 U.vm ∧ U.heap = h0) (fun _ _ _ _ _ => True) (fun _ U o U' => ∃ v L, o = .returned v ∧ own_Q h0 n0 (some (.int (0 : Int32))) v U'.heap L ∧ FrameEnd U o U' L ({ frames := 0, cells := 0, slots := 0, locals := 0 } : Room).cells ({ frames := 0, cells := 0, slots := 0, locals := 0 } : Room).slots) := by
  obtain ⟨S_MONEY, E_MONEY, S_COUNT, E_COUNT, S_YEARS, E_YEARS, S_RATE, E_RATE, S_FLAG, E_FLAG, S_DATE, E_DATE, S_TABLE, E_TABLE, S_CHOICE, E_CHOICE, S_MONTH, E_MONTH, F_COUNT_ordinal, F_MONEY_ordinal, F_YEARS_ordinal, F_RATE_ordinal, F_FLAG_ordinal, F_DATE_ordinal, F_TABLE_ordinal, F_CHOICE_ordinal, F_MONTH_ordinal⟩ := PN
  refine MetFree.of_bodySF (plainFor_of_name pn_com_example_vestry_vestry_model_Kind) hisR ?_
  intro p e s m args below meth c s₁ Bd hml0 hP hK
  obtain ⟨rfl, hZ, hh⟩ := hP
  have hx := Bd.exec
  have hby := Bd.bytes
  have hml : c.maxLocals = 1 := hml0
  have hown : s.vm.findClass "com/example/vestry/vestry/model/Kind" = some m.cls := findClass_of_methodNamed Bd.named
  have X0 : Stand p l e ({ frames := 0, cells := 0, slots := 0, locals := 0 } : Room) s m #[(.ref w_MONTH)] below meth c s₁ [] 0 0 := Stand.of_body Bd
  have e0 : s₁.heap = h0 := by rw [← hh, Bd.state]; rfl
  have N0 := Fr.nil n0
  refine (?_ : own_Fin p e below _ _)
  refine own_st (fun t k => castTop (ef_2_R m w_MONTH) k) ?_
  show own_Fin p e below _ (s₁.setTop (mkF m 0 #[.val (.ref w_MONTH)] []))
  refine own_st (fun t k => XS.aloadN X0.here hx rfl (hb hby d2_0) rfl rfl k) ?_
  show own_Fin p e below _ (s₁.setTop (mkF m 1 #[.val (.ref w_MONTH)] [(.ref w_MONTH)]))
  obtain ⟨T1, X1, e1, st1⟩ := getS2 X0 hx hZ hown (host := "") (Or.inl (hw _ (List.mem_of_getElem? (i := 13) rfl))) Via.refl e0 S_MONEY (g := (mkF m 1 #[.val (.ref w_MONTH)] [(.ref w_MONTH)])) rfl (hb hby d2_1)
  refine own_st st1 ?_
  show own_Fin p e below _ (T1.setTop (mkF m 4 #[.val (.ref w_MONTH)] [(.ref w_MONEY), (.ref w_MONTH)]))
  refine own_st (fun t k => Jvm.RoadKit.acmp (g := (mkF m 4 #[.val (.ref w_MONTH)] [(.ref w_MONEY), (.ref w_MONTH)])) X1 hx rfl rfl rfl (pc0 := 4) (pc' := 7) (same := false) rfl (hb hby d2_4) rfl (decide_eq_false fun q => (Fld.ne F_MONTH_ordinal F_MONEY_ordinal (by simp)) (Value.ref.inj q)) (by decide) (by decide) k) ?_
  show own_Fin p e below _ (T1.setTop (mkF m 7 #[.val (.ref w_MONTH)] []))
  refine own_st (fun t k => XS.aloadN X1.here hx rfl (hb hby d2_7) rfl rfl k) ?_
  show own_Fin p e below _ (T1.setTop (mkF m 8 #[.val (.ref w_MONTH)] [(.ref w_MONTH)]))
  obtain ⟨T2, X2, e2, st2⟩ := getS2 X1 hx hZ hown (host := "") (Or.inl (hw _ (List.mem_of_getElem? (i := 16) rfl))) Via.refl e1 S_YEARS (g := (mkF m 8 #[.val (.ref w_MONTH)] [(.ref w_MONTH)])) rfl (hb hby d2_8)
  refine own_st st2 ?_
  show own_Fin p e below _ (T2.setTop (mkF m 11 #[.val (.ref w_MONTH)] [(.ref w_YEARS), (.ref w_MONTH)]))
  refine own_st (fun t k => Jvm.RoadKit.acmp (g := (mkF m 11 #[.val (.ref w_MONTH)] [(.ref w_YEARS), (.ref w_MONTH)])) X2 hx rfl rfl rfl (pc0 := 11) (pc' := 14) (same := false) rfl (hb hby d2_11) rfl (decide_eq_false fun q => (Fld.ne F_MONTH_ordinal F_YEARS_ordinal (by simp)) (Value.ref.inj q)) (by decide) (by decide) k) ?_
  show own_Fin p e below _ (T2.setTop (mkF m 14 #[.val (.ref w_MONTH)] []))
  refine own_st (fun t k => XS.aloadN X2.here hx rfl (hb hby d2_14) rfl rfl k) ?_
  show own_Fin p e below _ (T2.setTop (mkF m 15 #[.val (.ref w_MONTH)] [(.ref w_MONTH)]))
  obtain ⟨T3, X3, e3, st3⟩ := getS2 X2 hx hZ hown (host := "") (Or.inl (hw _ (List.mem_of_getElem? (i := 18) rfl))) Via.refl e2 S_RATE (g := (mkF m 15 #[.val (.ref w_MONTH)] [(.ref w_MONTH)])) rfl (hb hby d2_15)
  refine own_st st3 ?_
  show own_Fin p e below _ (T3.setTop (mkF m 18 #[.val (.ref w_MONTH)] [(.ref w_RATE), (.ref w_MONTH)]))
  refine own_st (fun t k => Jvm.RoadKit.acmp (g := (mkF m 18 #[.val (.ref w_MONTH)] [(.ref w_RATE), (.ref w_MONTH)])) X3 hx rfl rfl rfl (pc0 := 18) (pc' := 21) (same := false) rfl (hb hby d2_18) rfl (decide_eq_false fun q => (Fld.ne F_MONTH_ordinal F_RATE_ordinal (by simp)) (Value.ref.inj q)) (by decide) (by decide) k) ?_
  show own_Fin p e below _ (T3.setTop (mkF m 21 #[.val (.ref w_MONTH)] []))
  refine own_st (fun t k => XS.aloadN X3.here hx rfl (hb hby d2_21) rfl rfl k) ?_
  show own_Fin p e below _ (T3.setTop (mkF m 22 #[.val (.ref w_MONTH)] [(.ref w_MONTH)]))
  obtain ⟨T4, X4, e4, st4⟩ := getS2 X3 hx hZ hown (host := "") (Or.inl (hw _ (List.mem_of_getElem? (i := 20) rfl))) Via.refl e3 S_COUNT (g := (mkF m 22 #[.val (.ref w_MONTH)] [(.ref w_MONTH)])) rfl (hb hby d2_22)
  refine own_st st4 ?_
  show own_Fin p e below _ (T4.setTop (mkF m 25 #[.val (.ref w_MONTH)] [(.ref w_COUNT), (.ref w_MONTH)]))
  refine own_st (fun t k => Jvm.RoadKit.acmp (g := (mkF m 25 #[.val (.ref w_MONTH)] [(.ref w_COUNT), (.ref w_MONTH)])) X4 hx rfl rfl rfl (pc0 := 25) (pc' := 32) (same := false) rfl (hb hby d2_25) rfl (decide_eq_false fun q => (Fld.ne F_MONTH_ordinal F_COUNT_ordinal (by simp)) (Value.ref.inj q)) (by decide) (by decide) k) ?_
  show own_Fin p e below _ (T4.setTop (mkF m 32 #[.val (.ref w_MONTH)] []))
  refine own_st (fun t k => XS.iconst X4.here hx rfl (hb hby d2_32) k) ?_
  show own_Fin p e below _ (T4.setTop (mkF m 33 #[.val (.ref w_MONTH)] [(.int (0 : Int32))]))
  obtain ⟨fs, hr, hrun, hended, hW, hsame⟩ := X4.leave (v := some (.int (0 : Int32))) (fun h => by rw [Bd.returns] at h; cases h)
  exact ⟨_, _, retN X4 hx (t := .boolean) Bd.returns (by simp) (hb hby d2_33) hr, hrun, hended, _, _, rfl, ⟨rfl, N0, e4⟩, ⟨_, rfl⟩, hW, hsame.mono (by decide) (by decide)⟩
set_option maxRecDepth 65536 in
set_option maxHeartbeats 40000000 in
theorem rm0_c5 (l : Launch) (Z : State) (a0 : Array Value) (hw : ∀ d ∈ tables_1, d.before a0 Z = true) (ws : List Jvm.Cond) (w_MONEY w_COUNT w_YEARS w_RATE w_FLAG w_DATE w_TABLE w_CHOICE w_MONTH : Addr) (p0 : Int32) (h0 : Heap) (n0 : Nat) (PN : own_Pins Z h0 w_MONEY w_COUNT w_YEARS w_RATE w_FLAG w_DATE w_TABLE w_CHOICE w_MONTH) (q0 : ((p0 &&& (2147483647 : Int32)) % (9 : Int32)) = (5 : Int32)) :
    MetFree l x (head1 (Jvm.Cond.code x code maxLocals ret :: ws) room_1) (fun a U => a = #[(.int p0)] ∧ Z.Warmed39 U.vm ∧ U.heap = h0) (fun _ _ _ _ _ => True) (fun _ U o U' => ∃ v L, o = .returned v ∧ own_Q h0 n0 (some (.int (1 : Int32))) v U'.heap L ∧ FrameEnd U o U' L room_1.cells room_1.slots) := by
  obtain ⟨S_MONEY, E_MONEY, S_COUNT, E_COUNT, S_YEARS, E_YEARS, S_RATE, E_RATE, S_FLAG, E_FLAG, S_DATE, E_DATE, S_TABLE, E_TABLE, S_CHOICE, E_CHOICE, S_MONTH, E_MONTH, F_COUNT_ordinal, F_MONEY_ordinal, F_YEARS_ordinal, F_RATE_ordinal, F_FLAG_ordinal, F_DATE_ordinal, F_TABLE_ordinal, F_CHOICE_ordinal, F_MONTH_ordinal⟩ := PN
  refine MetFree.of_bodySF (plainFor_of_name pn_com_example_vestry_vestry_model_KindIsNumberPinLaw) hisR ?_
  intro p e s m args below meth c s₁ Bd hml0 hP hK
  obtain ⟨rfl, hZ, hh⟩ := hP
  have hx := Bd.exec
  have hby := Bd.bytes
  have hml : c.maxLocals = 4 := hml0
  have hown : s.vm.findClass "com/example/vestry/vestry/model/KindIsNumberPinLaw" = some m.cls := findClass_of_methodNamed Bd.named
  have X0 : Stand p l e room_1 s m #[(.int p0)] below meth c s₁ [] 0 0 := Stand.of_body Bd
  have e0 : s₁.heap = h0 := by rw [← hh, Bd.state]; rfl
  have N0 := Fr.nil n0
  refine (?_ : own_Fin p e below _ _)
  refine own_st (fun t k => castTop (ef_0_I m p0) k) ?_
  show own_Fin p e below _ (s₁.setTop (mkF m 0 #[.val (.int p0), .unset, .unset, .unset] []))
  refine own_st (fun t k => XS.iloadN X0.here hx rfl (hb hby at_0) rfl k) ?_
  show own_Fin p e below _ (s₁.setTop (mkF m 1 #[.val (.int p0), .unset, .unset, .unset] [(.int p0)]))
  refine own_st (fun t k => X0.ldcI hx hown (mvT hZ (hw _ (List.mem_of_getElem? (i := 0) rfl))) rfl (hb hby at_1) k) ?_
  show own_Fin p e below _ (s₁.setTop (mkF m 3 #[.val (.int p0), .unset, .unset, .unset] [(.int (2147483647 : Int32)), (.int p0)]))
  refine own_st (fun t k => XS.iand X0.here hx rfl (hb hby at_3) rfl k) ?_
  show own_Fin p e below _ (s₁.setTop (mkF m 4 #[.val (.int p0), .unset, .unset, .unset] [(.int (p0 &&& (2147483647 : Int32)))]))
  refine own_st (fun t k => XS.bipush X0.here hx rfl (hb hby at_4) k) ?_
  show own_Fin p e below _ (s₁.setTop (mkF m 6 #[.val (.int p0), .unset, .unset, .unset] [(.int (9 : Int32)), (.int (p0 &&& (2147483647 : Int32)))]))
  refine own_st (fun t k => iremM X0 hx rfl (hb hby at_6) rfl (by decide) k) ?_
  show own_Fin p e below _ (s₁.setTop (mkF m 7 #[.val (.int p0), .unset, .unset, .unset] [(.int ((p0 &&& (2147483647 : Int32)) % (9 : Int32)))]))
  rw [q0]
  show own_Fin p e below _ (s₁.setTop (mkF m 7 #[.val (.int p0), .unset, .unset, .unset] [(.int (5 : Int32))]))
  refine own_st (fun t k => XS.istoreN X0.here hx rfl (hb hby at_7) rfl (l' := #[.val (.int p0), .val (.int (5 : Int32)), .unset, .unset]) rfl k) ?_
  show own_Fin p e below _ (s₁.setTop (mkF m 8 #[.val (.int p0), .val (.int (5 : Int32)), .unset, .unset] []))
  refine own_st (fun t k => XS.iloadN X0.here hx rfl (hb hby at_8) rfl k) ?_
  show own_Fin p e below _ (s₁.setTop (mkF m 9 #[.val (.int p0), .val (.int (5 : Int32)), .unset, .unset] [(.int (5 : Int32))]))
  obtain ⟨_, _, ⟨T1, L1, k1, n1⟩, -, X1, ⟨Lc1, hQ1, l1, y1, z1⟩, st1⟩ := Jvm.LawKit.callS X0 hx (y := (⟨"com/example/vestry/vestry/model/KindIsNumberPinLaw", "pick", "(I)Lcom/example/vestry/vestry/model/Kind;"⟩ : MethodName)) hown (mvT hZ (hw _ (List.mem_of_getElem? (i := 1) rfl))) (mvT hZ (hw _ (List.mem_of_getElem? (i := 2) rfl))) (mvT hZ (hw _ (List.mem_of_getElem? (i := 3) rfl))) (mvT hZ (hw _ (List.mem_of_getElem? (i := 4) rfl))) (by decide) (backOf (W := 0) (rm1_5 l Z a0 hw [] w_MONEY w_COUNT w_YEARS w_RATE w_FLAG w_DATE w_TABLE w_CHOICE w_MONTH h0 n0 (by exact ⟨S_MONEY, E_MONEY, S_COUNT, E_COUNT, S_YEARS, E_YEARS, S_RATE, E_RATE, S_FLAG, E_FLAG, S_DATE, E_DATE, S_TABLE, E_TABLE, S_CHOICE, E_CHOICE, S_MONTH, E_MONTH, F_COUNT_ordinal, F_MONEY_ordinal, F_YEARS_ordinal, F_RATE_ordinal, F_FLAG_ordinal, F_DATE_ordinal, F_TABLE_ordinal, F_CHOICE_ordinal, F_MONTH_ordinal⟩)) hZ (hw _ (List.mem_of_getElem? (i := 4) rfl)) (hw _ (List.mem_of_getElem? (i := 3) rfl)) (by decide) (by decide)) (g := (mkF m 9 #[.val (.int p0), .val (.int (5 : Int32)), .unset, .unset] [(.int (5 : Int32))])) rfl (by rw [hml]; rfl) (argsL := [(.int (5 : Int32))]) (rest := []) (lenOf pd__I_Lcom_example_vestry_vestry_model_Kind_ rfl) rfl (by show 2 * 0 + _ ≤ _; exact Nat.le_of_eq rfl) (hb hby at_9) (fun _ _ => ⟨rfl, e0, (by decide : 0 + 0 ≤ _), (by decide : 0 + 0 ≤ _)⟩)
  dsimp only [Pt.U, Pt.locs, Pt.cells, Pt.slots] at X1 l1 y1 z1 st1 hQ1
  subst l1 y1 z1
  obtain ⟨rfl, N1q, e1⟩ := hQ1
  have N1 := Fr.app N0 N1q
  refine own_st st1 ?_
  show own_Fin p e below _ (T1.setTop (mkF m 12 #[.val (.int p0), .val (.int (5 : Int32)), .unset, .unset] [(.ref w_MONTH)]))
  refine own_st (fun t k => XS.astoreN X1.here hx rfl (hb hby at_12) rfl rfl (l' := #[.val (.int p0), .val (.int (5 : Int32)), .val (.ref w_MONTH), .unset]) rfl k) ?_
  show own_Fin p e below _ (T1.setTop (mkF m 13 #[.val (.int p0), .val (.int (5 : Int32)), .val (.ref w_MONTH), .unset] []))
  refine own_st (fun t k => XS.iloadN X1.here hx rfl (hb hby at_13) rfl k) ?_
  show own_Fin p e below _ (T1.setTop (mkF m 14 #[.val (.int p0), .val (.int (5 : Int32)), .val (.ref w_MONTH), .unset] [(.int (5 : Int32))]))
  refine own_st (fun t k => XS.iconst X1.here hx rfl (hb hby at_14) k) ?_
  show own_Fin p e below _ (T1.setTop (mkF m 15 #[.val (.int p0), .val (.int (5 : Int32)), .val (.ref w_MONTH), .unset] [(.int (4 : Int32)), (.int (5 : Int32))]))
  refine own_st (fun t k => XS.icmpYes X1.here hx rfl (pc0 := 15) (pc' := 22) rfl (hb hby at_15) rfl (by decide) (by decide) (by decide) k) ?_
  show own_Fin p e below _ (T1.setTop (mkF m 22 #[.val (.int p0), .val (.int (5 : Int32)), .val (.ref w_MONTH), .unset] []))
  refine own_st (fun t k => XS.iconst X1.here hx rfl (hb hby at_22) k) ?_
  show own_Fin p e below _ (T1.setTop (mkF m 23 #[.val (.int p0), .val (.int (5 : Int32)), .val (.ref w_MONTH), .unset] [(.int (0 : Int32))]))
  refine own_st (fun t k => XS.istoreN X1.here hx rfl (hb hby at_23) rfl (l' := #[.val (.int p0), .val (.int (5 : Int32)), .val (.ref w_MONTH), .val (.int (0 : Int32))]) rfl k) ?_
  show own_Fin p e below _ (T1.setTop (mkF m 24 #[.val (.int p0), .val (.int (5 : Int32)), .val (.ref w_MONTH), .val (.int (0 : Int32))] []))
  refine own_st (fun t k => XS.aloadN X1.here hx rfl (hb hby at_24) rfl rfl k) ?_
  show own_Fin p e below _ (T1.setTop (mkF m 25 #[.val (.int p0), .val (.int (5 : Int32)), .val (.ref w_MONTH), .val (.int (0 : Int32))] [(.ref w_MONTH)]))
  obtain ⟨cq2, kq2, q2a, q2b, q2c⟩ := isOf hZ e1 E_MONTH
  obtain ⟨_, _, ⟨T2, L2, k2, n2⟩, -, X2, ⟨Lc2, hQ2, l2, y2, z2⟩, st2⟩ := X1.virtualBack hx (y := (⟨"com/example/vestry/vestry/model/Kind", "isNumber", "()Z"⟩ : MethodName)) (z := (⟨"com/example/vestry/vestry/model/Kind", "isNumber", "()Z"⟩ : MethodName)) hown (mvT hZ (hw _ (List.mem_of_getElem? (i := 8) rfl))) (mvT hZ (hw _ (List.mem_of_getElem? (i := 9) rfl))) (notFace_of_selects (args := #[]) (mvT hZ (hw _ (List.mem_of_getElem? (i := 11) rfl)))) (mvT hZ (hw _ (List.mem_of_getElem? (i := 11) rfl))) (mvT hZ (hw _ (List.mem_of_getElem? (i := 10) rfl))) (by decide) (backOf (W := 0) (rm2_w_MONTH l Z a0 hw [] w_MONEY w_COUNT w_YEARS w_RATE w_FLAG w_DATE w_TABLE w_CHOICE w_MONTH h0 n0 (by exact ⟨S_MONEY, E_MONEY, S_COUNT, E_COUNT, S_YEARS, E_YEARS, S_RATE, E_RATE, S_FLAG, E_FLAG, S_DATE, E_DATE, S_TABLE, E_TABLE, S_CHOICE, E_CHOICE, S_MONTH, E_MONTH, F_COUNT_ordinal, F_MONEY_ordinal, F_YEARS_ordinal, F_RATE_ordinal, F_FLAG_ordinal, F_DATE_ordinal, F_TABLE_ordinal, F_CHOICE_ordinal, F_MONTH_ordinal⟩)) hZ (hw _ (List.mem_of_getElem? (i := 12) rfl)) (hw _ (List.mem_of_getElem? (i := 6) rfl)) (by decide) (by decide)) q2a q2c (g := (mkF m 25 #[.val (.int p0), .val (.int (5 : Int32)), .val (.ref w_MONTH), .val (.int (0 : Int32))] [(.ref w_MONTH)])) rfl (by rw [hml]; rfl) (Steps.refl _) (argsL := []) (rest := []) (lenOf pd___Z rfl) rfl (by show 2 * 0 + _ ≤ _; exact Nat.le_of_eq rfl) (hb hby at_25) (fun _ _ => ⟨rfl, e1, (by decide : 0 + 0 ≤ _), (by decide : 0 + 0 ≤ _)⟩)
  dsimp only [Pt.U, Pt.locs, Pt.cells, Pt.slots] at X2 l2 y2 z2 st2 hQ2
  subst l2 y2 z2
  obtain ⟨rfl, N2q, e2⟩ := hQ2
  have N2 := Fr.app N1 N2q
  refine own_tr st2 ?_
  show own_Fin p e below _ (T2.setTop (mkF m 28 #[.val (.int p0), .val (.int (5 : Int32)), .val (.ref w_MONTH), .val (.int (0 : Int32))] [(.int (0 : Int32))]))
  refine own_st (fun t k => XS.iloadN X2.here hx rfl (hb hby at_28) rfl k) ?_
  show own_Fin p e below _ (T2.setTop (mkF m 29 #[.val (.int p0), .val (.int (5 : Int32)), .val (.ref w_MONTH), .val (.int (0 : Int32))] [(.int (0 : Int32)), (.int (0 : Int32))]))
  refine own_st (fun t k => XS.icmpNo X2.here hx rfl (hb hby at_29) rfl (by decide) k) ?_
  show own_Fin p e below _ (T2.setTop (mkF m 32 #[.val (.int p0), .val (.int (5 : Int32)), .val (.ref w_MONTH), .val (.int (0 : Int32))] []))
  refine own_st (fun t k => XS.iconst X2.here hx rfl (hb hby at_32) k) ?_
  show own_Fin p e below _ (T2.setTop (mkF m 33 #[.val (.int p0), .val (.int (5 : Int32)), .val (.ref w_MONTH), .val (.int (0 : Int32))] [(.int (1 : Int32))]))
  refine own_st (fun t k => XS.goto X2.here hx rfl (pc0 := 33) (pc' := 37) rfl (hb hby at_33) (by decide) (by decide) k) ?_
  show own_Fin p e below _ (T2.setTop (mkF m 37 #[.val (.int p0), .val (.int (5 : Int32)), .val (.ref w_MONTH), .val (.int (0 : Int32))] [(.int (1 : Int32))]))
  obtain ⟨fs, hr, hrun, hended, hW, hsame⟩ := X2.leave (v := some (.int (1 : Int32))) (fun h => by rw [Bd.returns] at h; cases h)
  exact ⟨_, _, retN X2 hx (t := .boolean) Bd.returns (by simp) (hb hby at_37) hr, hrun, hended, _, _, rfl, ⟨rfl, N2, e2⟩, ⟨_, rfl⟩, hW, hsame.mono (by decide) (by decide)⟩
theorem d1_53 : decode method_2_code 53 = .ok (.iload_n 0, 1) := by decide +kernel
theorem d1_54 : decode method_2_code 54 = .ok (.bipush 6, 2) := by decide +kernel
theorem d1_56 : decode method_2_code 56 = .ok (.if_icmp .ne 7, 3) := by decide +kernel
theorem d1_59 : decode method_2_code 59 = .ok (.getstatic 28, 3) := by decide +kernel
theorem d1_62 : decode method_2_code 62 = .ok (.areturn, 1) := by decide +kernel
set_option maxRecDepth 65536 in
set_option maxHeartbeats 40000000 in
theorem rm1_6 (l : Launch) (Z : State) (a0 : Array Value) (hw : ∀ d ∈ tables_1, d.before a0 Z = true) (ws : List Jvm.Cond) (w_MONEY w_COUNT w_YEARS w_RATE w_FLAG w_DATE w_TABLE w_CHOICE w_MONTH : Addr) (h0 : Heap) (n0 : Nat) (PN : own_Pins Z h0 w_MONEY w_COUNT w_YEARS w_RATE w_FLAG w_DATE w_TABLE w_CHOICE w_MONTH) :
    MetFree l (⟨"com/example/vestry/vestry/model/KindIsNumberPinLaw", "pick", "(I)Lcom/example/vestry/vestry/model/Kind;"⟩ : MethodName) (head1 (Jvm.Cond.code (⟨"com/example/vestry/vestry/model/KindIsNumberPinLaw", "pick", "(I)Lcom/example/vestry/vestry/model/Kind;"⟩ : MethodName) method_2_code 1 (some (.object "com/example/vestry/vestry/model/Kind")) :: ws) ({ frames := 0, cells := 0, slots := 0, locals := 0 } : Room)) (fun a U => a = #[(.int (6 : Int32))] ∧ Z.Warmed39 U.vm ∧ U.heap = h0) (fun _ _ _ _ _ => True) (fun _ U o U' => ∃ v L, o = .returned v ∧ own_Q h0 n0 (some (.ref w_CHOICE)) v U'.heap L ∧ FrameEnd U o U' L ({ frames := 0, cells := 0, slots := 0, locals := 0 } : Room).cells ({ frames := 0, cells := 0, slots := 0, locals := 0 } : Room).slots) := by
  obtain ⟨S_MONEY, E_MONEY, S_COUNT, E_COUNT, S_YEARS, E_YEARS, S_RATE, E_RATE, S_FLAG, E_FLAG, S_DATE, E_DATE, S_TABLE, E_TABLE, S_CHOICE, E_CHOICE, S_MONTH, E_MONTH, F_COUNT_ordinal, F_MONEY_ordinal, F_YEARS_ordinal, F_RATE_ordinal, F_FLAG_ordinal, F_DATE_ordinal, F_TABLE_ordinal, F_CHOICE_ordinal, F_MONTH_ordinal⟩ := PN
  refine MetFree.of_bodySF (plainFor_of_name pn_com_example_vestry_vestry_model_KindIsNumberPinLaw) hisR ?_
  intro p e s m args below meth c s₁ Bd hml0 hP hK
  obtain ⟨rfl, hZ, hh⟩ := hP
  have hx := Bd.exec
  have hby := Bd.bytes
  have hml : c.maxLocals = 1 := hml0
  have hown : s.vm.findClass "com/example/vestry/vestry/model/KindIsNumberPinLaw" = some m.cls := findClass_of_methodNamed Bd.named
  have X0 : Stand p l e ({ frames := 0, cells := 0, slots := 0, locals := 0 } : Room) s m #[(.int (6 : Int32))] below meth c s₁ [] 0 0 := Stand.of_body Bd
  have e0 : s₁.heap = h0 := by rw [← hh, Bd.state]; rfl
  have N0 := Fr.nil n0
  refine (?_ : own_Fin p e below _ _)
  refine own_st (fun t k => castTop (ef_1_I m (6 : Int32)) k) ?_
  show own_Fin p e below _ (s₁.setTop (mkF m 0 #[.val (.int (6 : Int32))] []))
  refine own_st (fun t k => XS.iloadN X0.here hx rfl (hb hby d1_0) rfl k) ?_
  show own_Fin p e below _ (s₁.setTop (mkF m 1 #[.val (.int (6 : Int32))] [(.int (6 : Int32))]))
  refine own_st (fun t k => XS.ifYes X0.here hx rfl (pc0 := 1) (pc' := 8) rfl (hb hby d1_1) rfl (by decide) (by decide) (by decide) k) ?_
  show own_Fin p e below _ (s₁.setTop (mkF m 8 #[.val (.int (6 : Int32))] []))
  refine own_st (fun t k => XS.iloadN X0.here hx rfl (hb hby d1_8) rfl k) ?_
  show own_Fin p e below _ (s₁.setTop (mkF m 9 #[.val (.int (6 : Int32))] [(.int (6 : Int32))]))
  refine own_st (fun t k => XS.iconst X0.here hx rfl (hb hby d1_9) k) ?_
  show own_Fin p e below _ (s₁.setTop (mkF m 10 #[.val (.int (6 : Int32))] [(.int (1 : Int32)), (.int (6 : Int32))]))
  refine own_st (fun t k => XS.icmpYes X0.here hx rfl (pc0 := 10) (pc' := 17) rfl (hb hby d1_10) rfl (by decide) (by decide) (by decide) k) ?_
  show own_Fin p e below _ (s₁.setTop (mkF m 17 #[.val (.int (6 : Int32))] []))
  refine own_st (fun t k => XS.iloadN X0.here hx rfl (hb hby d1_17) rfl k) ?_
  show own_Fin p e below _ (s₁.setTop (mkF m 18 #[.val (.int (6 : Int32))] [(.int (6 : Int32))]))
  refine own_st (fun t k => XS.iconst X0.here hx rfl (hb hby d1_18) k) ?_
  show own_Fin p e below _ (s₁.setTop (mkF m 19 #[.val (.int (6 : Int32))] [(.int (2 : Int32)), (.int (6 : Int32))]))
  refine own_st (fun t k => XS.icmpYes X0.here hx rfl (pc0 := 19) (pc' := 26) rfl (hb hby d1_19) rfl (by decide) (by decide) (by decide) k) ?_
  show own_Fin p e below _ (s₁.setTop (mkF m 26 #[.val (.int (6 : Int32))] []))
  refine own_st (fun t k => XS.iloadN X0.here hx rfl (hb hby d1_26) rfl k) ?_
  show own_Fin p e below _ (s₁.setTop (mkF m 27 #[.val (.int (6 : Int32))] [(.int (6 : Int32))]))
  refine own_st (fun t k => XS.iconst X0.here hx rfl (hb hby d1_27) k) ?_
  show own_Fin p e below _ (s₁.setTop (mkF m 28 #[.val (.int (6 : Int32))] [(.int (3 : Int32)), (.int (6 : Int32))]))
  refine own_st (fun t k => XS.icmpYes X0.here hx rfl (pc0 := 28) (pc' := 35) rfl (hb hby d1_28) rfl (by decide) (by decide) (by decide) k) ?_
  show own_Fin p e below _ (s₁.setTop (mkF m 35 #[.val (.int (6 : Int32))] []))
  refine own_st (fun t k => XS.iloadN X0.here hx rfl (hb hby d1_35) rfl k) ?_
  show own_Fin p e below _ (s₁.setTop (mkF m 36 #[.val (.int (6 : Int32))] [(.int (6 : Int32))]))
  refine own_st (fun t k => XS.iconst X0.here hx rfl (hb hby d1_36) k) ?_
  show own_Fin p e below _ (s₁.setTop (mkF m 37 #[.val (.int (6 : Int32))] [(.int (4 : Int32)), (.int (6 : Int32))]))
  refine own_st (fun t k => XS.icmpYes X0.here hx rfl (pc0 := 37) (pc' := 44) rfl (hb hby d1_37) rfl (by decide) (by decide) (by decide) k) ?_
  show own_Fin p e below _ (s₁.setTop (mkF m 44 #[.val (.int (6 : Int32))] []))
  refine own_st (fun t k => XS.iloadN X0.here hx rfl (hb hby d1_44) rfl k) ?_
  show own_Fin p e below _ (s₁.setTop (mkF m 45 #[.val (.int (6 : Int32))] [(.int (6 : Int32))]))
  refine own_st (fun t k => XS.iconst X0.here hx rfl (hb hby d1_45) k) ?_
  show own_Fin p e below _ (s₁.setTop (mkF m 46 #[.val (.int (6 : Int32))] [(.int (5 : Int32)), (.int (6 : Int32))]))
  refine own_st (fun t k => XS.icmpYes X0.here hx rfl (pc0 := 46) (pc' := 53) rfl (hb hby d1_46) rfl (by decide) (by decide) (by decide) k) ?_
  show own_Fin p e below _ (s₁.setTop (mkF m 53 #[.val (.int (6 : Int32))] []))
  refine own_st (fun t k => XS.iloadN X0.here hx rfl (hb hby d1_53) rfl k) ?_
  show own_Fin p e below _ (s₁.setTop (mkF m 54 #[.val (.int (6 : Int32))] [(.int (6 : Int32))]))
  refine own_st (fun t k => XS.bipush X0.here hx rfl (hb hby d1_54) k) ?_
  show own_Fin p e below _ (s₁.setTop (mkF m 56 #[.val (.int (6 : Int32))] [(.int (6 : Int32)), (.int (6 : Int32))]))
  refine own_st (fun t k => XS.icmpNo X0.here hx rfl (hb hby d1_56) rfl (by decide) k) ?_
  show own_Fin p e below _ (s₁.setTop (mkF m 59 #[.val (.int (6 : Int32))] []))
  obtain ⟨T1, X1, e1, st1⟩ := getS2 X0 hx hZ hown (host := "") (Or.inl (hw _ (List.mem_of_getElem? (i := 29) rfl))) Via.refl e0 S_CHOICE (g := (mkF m 59 #[.val (.int (6 : Int32))] [])) rfl (hb hby d1_59)
  refine own_st st1 ?_
  show own_Fin p e below _ (T1.setTop (mkF m 62 #[.val (.int (6 : Int32))] [(.ref w_CHOICE)]))
  obtain ⟨fs, hr, hrun, hended, hW, hsame⟩ := X1.leave (v := some (.ref w_CHOICE)) (fun h => by rw [Bd.returns] at h; cases h)
  exact ⟨_, _, retOut X1 hx (t := (.object "com/example/vestry/vestry/model/Kind")) Bd.returns rfl (Or.inr (Or.inr (Or.inr (Or.inr ⟨rfl, rfl, rfl⟩)))) (hb hby d1_62) hr, hrun, hended, _, _, rfl, ⟨rfl, N0, e1⟩, ⟨_, rfl⟩, hW, hsame.mono (by decide) (by decide)⟩
set_option maxRecDepth 65536 in
set_option maxHeartbeats 40000000 in
theorem rm2_w_CHOICE (l : Launch) (Z : State) (a0 : Array Value) (hw : ∀ d ∈ tables_1, d.before a0 Z = true) (ws : List Jvm.Cond) (w_MONEY w_COUNT w_YEARS w_RATE w_FLAG w_DATE w_TABLE w_CHOICE w_MONTH : Addr) (h0 : Heap) (n0 : Nat) (PN : own_Pins Z h0 w_MONEY w_COUNT w_YEARS w_RATE w_FLAG w_DATE w_TABLE w_CHOICE w_MONTH) :
    MetFree l (⟨"com/example/vestry/vestry/model/Kind", "isNumber", "()Z"⟩ : MethodName) (head1 (Jvm.Cond.code (⟨"com/example/vestry/vestry/model/Kind", "isNumber", "()Z"⟩ : MethodName) prog_42_method_5_code 1 (some .boolean) :: ws) ({ frames := 0, cells := 0, slots := 0, locals := 0 } : Room)) (fun a U => a = #[(.ref w_CHOICE)] ∧ Z.Warmed39 U.vm ∧ U.heap = h0) (fun _ _ _ _ _ => True) (fun _ U o U' => ∃ v L, o = .returned v ∧ own_Q h0 n0 (some (.int (0 : Int32))) v U'.heap L ∧ FrameEnd U o U' L ({ frames := 0, cells := 0, slots := 0, locals := 0 } : Room).cells ({ frames := 0, cells := 0, slots := 0, locals := 0 } : Room).slots) := by
  obtain ⟨S_MONEY, E_MONEY, S_COUNT, E_COUNT, S_YEARS, E_YEARS, S_RATE, E_RATE, S_FLAG, E_FLAG, S_DATE, E_DATE, S_TABLE, E_TABLE, S_CHOICE, E_CHOICE, S_MONTH, E_MONTH, F_COUNT_ordinal, F_MONEY_ordinal, F_YEARS_ordinal, F_RATE_ordinal, F_FLAG_ordinal, F_DATE_ordinal, F_TABLE_ordinal, F_CHOICE_ordinal, F_MONTH_ordinal⟩ := PN
  refine MetFree.of_bodySF (plainFor_of_name pn_com_example_vestry_vestry_model_Kind) hisR ?_
  intro p e s m args below meth c s₁ Bd hml0 hP hK
  obtain ⟨rfl, hZ, hh⟩ := hP
  have hx := Bd.exec
  have hby := Bd.bytes
  have hml : c.maxLocals = 1 := hml0
  have hown : s.vm.findClass "com/example/vestry/vestry/model/Kind" = some m.cls := findClass_of_methodNamed Bd.named
  have X0 : Stand p l e ({ frames := 0, cells := 0, slots := 0, locals := 0 } : Room) s m #[(.ref w_CHOICE)] below meth c s₁ [] 0 0 := Stand.of_body Bd
  have e0 : s₁.heap = h0 := by rw [← hh, Bd.state]; rfl
  have N0 := Fr.nil n0
  refine (?_ : own_Fin p e below _ _)
  refine own_st (fun t k => castTop (ef_2_R m w_CHOICE) k) ?_
  show own_Fin p e below _ (s₁.setTop (mkF m 0 #[.val (.ref w_CHOICE)] []))
  refine own_st (fun t k => XS.aloadN X0.here hx rfl (hb hby d2_0) rfl rfl k) ?_
  show own_Fin p e below _ (s₁.setTop (mkF m 1 #[.val (.ref w_CHOICE)] [(.ref w_CHOICE)]))
  obtain ⟨T1, X1, e1, st1⟩ := getS2 X0 hx hZ hown (host := "") (Or.inl (hw _ (List.mem_of_getElem? (i := 13) rfl))) Via.refl e0 S_MONEY (g := (mkF m 1 #[.val (.ref w_CHOICE)] [(.ref w_CHOICE)])) rfl (hb hby d2_1)
  refine own_st st1 ?_
  show own_Fin p e below _ (T1.setTop (mkF m 4 #[.val (.ref w_CHOICE)] [(.ref w_MONEY), (.ref w_CHOICE)]))
  refine own_st (fun t k => Jvm.RoadKit.acmp (g := (mkF m 4 #[.val (.ref w_CHOICE)] [(.ref w_MONEY), (.ref w_CHOICE)])) X1 hx rfl rfl rfl (pc0 := 4) (pc' := 7) (same := false) rfl (hb hby d2_4) rfl (decide_eq_false fun q => (Fld.ne F_CHOICE_ordinal F_MONEY_ordinal (by simp)) (Value.ref.inj q)) (by decide) (by decide) k) ?_
  show own_Fin p e below _ (T1.setTop (mkF m 7 #[.val (.ref w_CHOICE)] []))
  refine own_st (fun t k => XS.aloadN X1.here hx rfl (hb hby d2_7) rfl rfl k) ?_
  show own_Fin p e below _ (T1.setTop (mkF m 8 #[.val (.ref w_CHOICE)] [(.ref w_CHOICE)]))
  obtain ⟨T2, X2, e2, st2⟩ := getS2 X1 hx hZ hown (host := "") (Or.inl (hw _ (List.mem_of_getElem? (i := 16) rfl))) Via.refl e1 S_YEARS (g := (mkF m 8 #[.val (.ref w_CHOICE)] [(.ref w_CHOICE)])) rfl (hb hby d2_8)
  refine own_st st2 ?_
  show own_Fin p e below _ (T2.setTop (mkF m 11 #[.val (.ref w_CHOICE)] [(.ref w_YEARS), (.ref w_CHOICE)]))
  refine own_st (fun t k => Jvm.RoadKit.acmp (g := (mkF m 11 #[.val (.ref w_CHOICE)] [(.ref w_YEARS), (.ref w_CHOICE)])) X2 hx rfl rfl rfl (pc0 := 11) (pc' := 14) (same := false) rfl (hb hby d2_11) rfl (decide_eq_false fun q => (Fld.ne F_CHOICE_ordinal F_YEARS_ordinal (by simp)) (Value.ref.inj q)) (by decide) (by decide) k) ?_
  show own_Fin p e below _ (T2.setTop (mkF m 14 #[.val (.ref w_CHOICE)] []))
  refine own_st (fun t k => XS.aloadN X2.here hx rfl (hb hby d2_14) rfl rfl k) ?_
  show own_Fin p e below _ (T2.setTop (mkF m 15 #[.val (.ref w_CHOICE)] [(.ref w_CHOICE)]))
  obtain ⟨T3, X3, e3, st3⟩ := getS2 X2 hx hZ hown (host := "") (Or.inl (hw _ (List.mem_of_getElem? (i := 18) rfl))) Via.refl e2 S_RATE (g := (mkF m 15 #[.val (.ref w_CHOICE)] [(.ref w_CHOICE)])) rfl (hb hby d2_15)
  refine own_st st3 ?_
  show own_Fin p e below _ (T3.setTop (mkF m 18 #[.val (.ref w_CHOICE)] [(.ref w_RATE), (.ref w_CHOICE)]))
  refine own_st (fun t k => Jvm.RoadKit.acmp (g := (mkF m 18 #[.val (.ref w_CHOICE)] [(.ref w_RATE), (.ref w_CHOICE)])) X3 hx rfl rfl rfl (pc0 := 18) (pc' := 21) (same := false) rfl (hb hby d2_18) rfl (decide_eq_false fun q => (Fld.ne F_CHOICE_ordinal F_RATE_ordinal (by simp)) (Value.ref.inj q)) (by decide) (by decide) k) ?_
  show own_Fin p e below _ (T3.setTop (mkF m 21 #[.val (.ref w_CHOICE)] []))
  refine own_st (fun t k => XS.aloadN X3.here hx rfl (hb hby d2_21) rfl rfl k) ?_
  show own_Fin p e below _ (T3.setTop (mkF m 22 #[.val (.ref w_CHOICE)] [(.ref w_CHOICE)]))
  obtain ⟨T4, X4, e4, st4⟩ := getS2 X3 hx hZ hown (host := "") (Or.inl (hw _ (List.mem_of_getElem? (i := 20) rfl))) Via.refl e3 S_COUNT (g := (mkF m 22 #[.val (.ref w_CHOICE)] [(.ref w_CHOICE)])) rfl (hb hby d2_22)
  refine own_st st4 ?_
  show own_Fin p e below _ (T4.setTop (mkF m 25 #[.val (.ref w_CHOICE)] [(.ref w_COUNT), (.ref w_CHOICE)]))
  refine own_st (fun t k => Jvm.RoadKit.acmp (g := (mkF m 25 #[.val (.ref w_CHOICE)] [(.ref w_COUNT), (.ref w_CHOICE)])) X4 hx rfl rfl rfl (pc0 := 25) (pc' := 32) (same := false) rfl (hb hby d2_25) rfl (decide_eq_false fun q => (Fld.ne F_CHOICE_ordinal F_COUNT_ordinal (by simp)) (Value.ref.inj q)) (by decide) (by decide) k) ?_
  show own_Fin p e below _ (T4.setTop (mkF m 32 #[.val (.ref w_CHOICE)] []))
  refine own_st (fun t k => XS.iconst X4.here hx rfl (hb hby d2_32) k) ?_
  show own_Fin p e below _ (T4.setTop (mkF m 33 #[.val (.ref w_CHOICE)] [(.int (0 : Int32))]))
  obtain ⟨fs, hr, hrun, hended, hW, hsame⟩ := X4.leave (v := some (.int (0 : Int32))) (fun h => by rw [Bd.returns] at h; cases h)
  exact ⟨_, _, retN X4 hx (t := .boolean) Bd.returns (by simp) (hb hby d2_33) hr, hrun, hended, _, _, rfl, ⟨rfl, N0, e4⟩, ⟨_, rfl⟩, hW, hsame.mono (by decide) (by decide)⟩
set_option maxRecDepth 65536 in
set_option maxHeartbeats 40000000 in
theorem rm0_c6 (l : Launch) (Z : State) (a0 : Array Value) (hw : ∀ d ∈ tables_1, d.before a0 Z = true) (ws : List Jvm.Cond) (w_MONEY w_COUNT w_YEARS w_RATE w_FLAG w_DATE w_TABLE w_CHOICE w_MONTH : Addr) (p0 : Int32) (h0 : Heap) (n0 : Nat) (PN : own_Pins Z h0 w_MONEY w_COUNT w_YEARS w_RATE w_FLAG w_DATE w_TABLE w_CHOICE w_MONTH) (q0 : ((p0 &&& (2147483647 : Int32)) % (9 : Int32)) = (6 : Int32)) :
    MetFree l x (head1 (Jvm.Cond.code x code maxLocals ret :: ws) room_1) (fun a U => a = #[(.int p0)] ∧ Z.Warmed39 U.vm ∧ U.heap = h0) (fun _ _ _ _ _ => True) (fun _ U o U' => ∃ v L, o = .returned v ∧ own_Q h0 n0 (some (.int (1 : Int32))) v U'.heap L ∧ FrameEnd U o U' L room_1.cells room_1.slots) := by
  obtain ⟨S_MONEY, E_MONEY, S_COUNT, E_COUNT, S_YEARS, E_YEARS, S_RATE, E_RATE, S_FLAG, E_FLAG, S_DATE, E_DATE, S_TABLE, E_TABLE, S_CHOICE, E_CHOICE, S_MONTH, E_MONTH, F_COUNT_ordinal, F_MONEY_ordinal, F_YEARS_ordinal, F_RATE_ordinal, F_FLAG_ordinal, F_DATE_ordinal, F_TABLE_ordinal, F_CHOICE_ordinal, F_MONTH_ordinal⟩ := PN
  refine MetFree.of_bodySF (plainFor_of_name pn_com_example_vestry_vestry_model_KindIsNumberPinLaw) hisR ?_
  intro p e s m args below meth c s₁ Bd hml0 hP hK
  obtain ⟨rfl, hZ, hh⟩ := hP
  have hx := Bd.exec
  have hby := Bd.bytes
  have hml : c.maxLocals = 4 := hml0
  have hown : s.vm.findClass "com/example/vestry/vestry/model/KindIsNumberPinLaw" = some m.cls := findClass_of_methodNamed Bd.named
  have X0 : Stand p l e room_1 s m #[(.int p0)] below meth c s₁ [] 0 0 := Stand.of_body Bd
  have e0 : s₁.heap = h0 := by rw [← hh, Bd.state]; rfl
  have N0 := Fr.nil n0
  refine (?_ : own_Fin p e below _ _)
  refine own_st (fun t k => castTop (ef_0_I m p0) k) ?_
  show own_Fin p e below _ (s₁.setTop (mkF m 0 #[.val (.int p0), .unset, .unset, .unset] []))
  refine own_st (fun t k => XS.iloadN X0.here hx rfl (hb hby at_0) rfl k) ?_
  show own_Fin p e below _ (s₁.setTop (mkF m 1 #[.val (.int p0), .unset, .unset, .unset] [(.int p0)]))
  refine own_st (fun t k => X0.ldcI hx hown (mvT hZ (hw _ (List.mem_of_getElem? (i := 0) rfl))) rfl (hb hby at_1) k) ?_
  show own_Fin p e below _ (s₁.setTop (mkF m 3 #[.val (.int p0), .unset, .unset, .unset] [(.int (2147483647 : Int32)), (.int p0)]))
  refine own_st (fun t k => XS.iand X0.here hx rfl (hb hby at_3) rfl k) ?_
  show own_Fin p e below _ (s₁.setTop (mkF m 4 #[.val (.int p0), .unset, .unset, .unset] [(.int (p0 &&& (2147483647 : Int32)))]))
  refine own_st (fun t k => XS.bipush X0.here hx rfl (hb hby at_4) k) ?_
  show own_Fin p e below _ (s₁.setTop (mkF m 6 #[.val (.int p0), .unset, .unset, .unset] [(.int (9 : Int32)), (.int (p0 &&& (2147483647 : Int32)))]))
  refine own_st (fun t k => iremM X0 hx rfl (hb hby at_6) rfl (by decide) k) ?_
  show own_Fin p e below _ (s₁.setTop (mkF m 7 #[.val (.int p0), .unset, .unset, .unset] [(.int ((p0 &&& (2147483647 : Int32)) % (9 : Int32)))]))
  rw [q0]
  show own_Fin p e below _ (s₁.setTop (mkF m 7 #[.val (.int p0), .unset, .unset, .unset] [(.int (6 : Int32))]))
  refine own_st (fun t k => XS.istoreN X0.here hx rfl (hb hby at_7) rfl (l' := #[.val (.int p0), .val (.int (6 : Int32)), .unset, .unset]) rfl k) ?_
  show own_Fin p e below _ (s₁.setTop (mkF m 8 #[.val (.int p0), .val (.int (6 : Int32)), .unset, .unset] []))
  refine own_st (fun t k => XS.iloadN X0.here hx rfl (hb hby at_8) rfl k) ?_
  show own_Fin p e below _ (s₁.setTop (mkF m 9 #[.val (.int p0), .val (.int (6 : Int32)), .unset, .unset] [(.int (6 : Int32))]))
  obtain ⟨_, _, ⟨T1, L1, k1, n1⟩, -, X1, ⟨Lc1, hQ1, l1, y1, z1⟩, st1⟩ := Jvm.LawKit.callS X0 hx (y := (⟨"com/example/vestry/vestry/model/KindIsNumberPinLaw", "pick", "(I)Lcom/example/vestry/vestry/model/Kind;"⟩ : MethodName)) hown (mvT hZ (hw _ (List.mem_of_getElem? (i := 1) rfl))) (mvT hZ (hw _ (List.mem_of_getElem? (i := 2) rfl))) (mvT hZ (hw _ (List.mem_of_getElem? (i := 3) rfl))) (mvT hZ (hw _ (List.mem_of_getElem? (i := 4) rfl))) (by decide) (backOf (W := 0) (rm1_6 l Z a0 hw [] w_MONEY w_COUNT w_YEARS w_RATE w_FLAG w_DATE w_TABLE w_CHOICE w_MONTH h0 n0 (by exact ⟨S_MONEY, E_MONEY, S_COUNT, E_COUNT, S_YEARS, E_YEARS, S_RATE, E_RATE, S_FLAG, E_FLAG, S_DATE, E_DATE, S_TABLE, E_TABLE, S_CHOICE, E_CHOICE, S_MONTH, E_MONTH, F_COUNT_ordinal, F_MONEY_ordinal, F_YEARS_ordinal, F_RATE_ordinal, F_FLAG_ordinal, F_DATE_ordinal, F_TABLE_ordinal, F_CHOICE_ordinal, F_MONTH_ordinal⟩)) hZ (hw _ (List.mem_of_getElem? (i := 4) rfl)) (hw _ (List.mem_of_getElem? (i := 3) rfl)) (by decide) (by decide)) (g := (mkF m 9 #[.val (.int p0), .val (.int (6 : Int32)), .unset, .unset] [(.int (6 : Int32))])) rfl (by rw [hml]; rfl) (argsL := [(.int (6 : Int32))]) (rest := []) (lenOf pd__I_Lcom_example_vestry_vestry_model_Kind_ rfl) rfl (by show 2 * 0 + _ ≤ _; exact Nat.le_of_eq rfl) (hb hby at_9) (fun _ _ => ⟨rfl, e0, (by decide : 0 + 0 ≤ _), (by decide : 0 + 0 ≤ _)⟩)
  dsimp only [Pt.U, Pt.locs, Pt.cells, Pt.slots] at X1 l1 y1 z1 st1 hQ1
  subst l1 y1 z1
  obtain ⟨rfl, N1q, e1⟩ := hQ1
  have N1 := Fr.app N0 N1q
  refine own_st st1 ?_
  show own_Fin p e below _ (T1.setTop (mkF m 12 #[.val (.int p0), .val (.int (6 : Int32)), .unset, .unset] [(.ref w_CHOICE)]))
  refine own_st (fun t k => XS.astoreN X1.here hx rfl (hb hby at_12) rfl rfl (l' := #[.val (.int p0), .val (.int (6 : Int32)), .val (.ref w_CHOICE), .unset]) rfl k) ?_
  show own_Fin p e below _ (T1.setTop (mkF m 13 #[.val (.int p0), .val (.int (6 : Int32)), .val (.ref w_CHOICE), .unset] []))
  refine own_st (fun t k => XS.iloadN X1.here hx rfl (hb hby at_13) rfl k) ?_
  show own_Fin p e below _ (T1.setTop (mkF m 14 #[.val (.int p0), .val (.int (6 : Int32)), .val (.ref w_CHOICE), .unset] [(.int (6 : Int32))]))
  refine own_st (fun t k => XS.iconst X1.here hx rfl (hb hby at_14) k) ?_
  show own_Fin p e below _ (T1.setTop (mkF m 15 #[.val (.int p0), .val (.int (6 : Int32)), .val (.ref w_CHOICE), .unset] [(.int (4 : Int32)), (.int (6 : Int32))]))
  refine own_st (fun t k => XS.icmpYes X1.here hx rfl (pc0 := 15) (pc' := 22) rfl (hb hby at_15) rfl (by decide) (by decide) (by decide) k) ?_
  show own_Fin p e below _ (T1.setTop (mkF m 22 #[.val (.int p0), .val (.int (6 : Int32)), .val (.ref w_CHOICE), .unset] []))
  refine own_st (fun t k => XS.iconst X1.here hx rfl (hb hby at_22) k) ?_
  show own_Fin p e below _ (T1.setTop (mkF m 23 #[.val (.int p0), .val (.int (6 : Int32)), .val (.ref w_CHOICE), .unset] [(.int (0 : Int32))]))
  refine own_st (fun t k => XS.istoreN X1.here hx rfl (hb hby at_23) rfl (l' := #[.val (.int p0), .val (.int (6 : Int32)), .val (.ref w_CHOICE), .val (.int (0 : Int32))]) rfl k) ?_
  show own_Fin p e below _ (T1.setTop (mkF m 24 #[.val (.int p0), .val (.int (6 : Int32)), .val (.ref w_CHOICE), .val (.int (0 : Int32))] []))
  refine own_st (fun t k => XS.aloadN X1.here hx rfl (hb hby at_24) rfl rfl k) ?_
  show own_Fin p e below _ (T1.setTop (mkF m 25 #[.val (.int p0), .val (.int (6 : Int32)), .val (.ref w_CHOICE), .val (.int (0 : Int32))] [(.ref w_CHOICE)]))
  obtain ⟨cq2, kq2, q2a, q2b, q2c⟩ := isOf hZ e1 E_CHOICE
  obtain ⟨_, _, ⟨T2, L2, k2, n2⟩, -, X2, ⟨Lc2, hQ2, l2, y2, z2⟩, st2⟩ := X1.virtualBack hx (y := (⟨"com/example/vestry/vestry/model/Kind", "isNumber", "()Z"⟩ : MethodName)) (z := (⟨"com/example/vestry/vestry/model/Kind", "isNumber", "()Z"⟩ : MethodName)) hown (mvT hZ (hw _ (List.mem_of_getElem? (i := 8) rfl))) (mvT hZ (hw _ (List.mem_of_getElem? (i := 9) rfl))) (notFace_of_selects (args := #[]) (mvT hZ (hw _ (List.mem_of_getElem? (i := 11) rfl)))) (mvT hZ (hw _ (List.mem_of_getElem? (i := 11) rfl))) (mvT hZ (hw _ (List.mem_of_getElem? (i := 10) rfl))) (by decide) (backOf (W := 0) (rm2_w_CHOICE l Z a0 hw [] w_MONEY w_COUNT w_YEARS w_RATE w_FLAG w_DATE w_TABLE w_CHOICE w_MONTH h0 n0 (by exact ⟨S_MONEY, E_MONEY, S_COUNT, E_COUNT, S_YEARS, E_YEARS, S_RATE, E_RATE, S_FLAG, E_FLAG, S_DATE, E_DATE, S_TABLE, E_TABLE, S_CHOICE, E_CHOICE, S_MONTH, E_MONTH, F_COUNT_ordinal, F_MONEY_ordinal, F_YEARS_ordinal, F_RATE_ordinal, F_FLAG_ordinal, F_DATE_ordinal, F_TABLE_ordinal, F_CHOICE_ordinal, F_MONTH_ordinal⟩)) hZ (hw _ (List.mem_of_getElem? (i := 12) rfl)) (hw _ (List.mem_of_getElem? (i := 6) rfl)) (by decide) (by decide)) q2a q2c (g := (mkF m 25 #[.val (.int p0), .val (.int (6 : Int32)), .val (.ref w_CHOICE), .val (.int (0 : Int32))] [(.ref w_CHOICE)])) rfl (by rw [hml]; rfl) (Steps.refl _) (argsL := []) (rest := []) (lenOf pd___Z rfl) rfl (by show 2 * 0 + _ ≤ _; exact Nat.le_of_eq rfl) (hb hby at_25) (fun _ _ => ⟨rfl, e1, (by decide : 0 + 0 ≤ _), (by decide : 0 + 0 ≤ _)⟩)
  dsimp only [Pt.U, Pt.locs, Pt.cells, Pt.slots] at X2 l2 y2 z2 st2 hQ2
  subst l2 y2 z2
  obtain ⟨rfl, N2q, e2⟩ := hQ2
  have N2 := Fr.app N1 N2q
  refine own_tr st2 ?_
  show own_Fin p e below _ (T2.setTop (mkF m 28 #[.val (.int p0), .val (.int (6 : Int32)), .val (.ref w_CHOICE), .val (.int (0 : Int32))] [(.int (0 : Int32))]))
  refine own_st (fun t k => XS.iloadN X2.here hx rfl (hb hby at_28) rfl k) ?_
  show own_Fin p e below _ (T2.setTop (mkF m 29 #[.val (.int p0), .val (.int (6 : Int32)), .val (.ref w_CHOICE), .val (.int (0 : Int32))] [(.int (0 : Int32)), (.int (0 : Int32))]))
  refine own_st (fun t k => XS.icmpNo X2.here hx rfl (hb hby at_29) rfl (by decide) k) ?_
  show own_Fin p e below _ (T2.setTop (mkF m 32 #[.val (.int p0), .val (.int (6 : Int32)), .val (.ref w_CHOICE), .val (.int (0 : Int32))] []))
  refine own_st (fun t k => XS.iconst X2.here hx rfl (hb hby at_32) k) ?_
  show own_Fin p e below _ (T2.setTop (mkF m 33 #[.val (.int p0), .val (.int (6 : Int32)), .val (.ref w_CHOICE), .val (.int (0 : Int32))] [(.int (1 : Int32))]))
  refine own_st (fun t k => XS.goto X2.here hx rfl (pc0 := 33) (pc' := 37) rfl (hb hby at_33) (by decide) (by decide) k) ?_
  show own_Fin p e below _ (T2.setTop (mkF m 37 #[.val (.int p0), .val (.int (6 : Int32)), .val (.ref w_CHOICE), .val (.int (0 : Int32))] [(.int (1 : Int32))]))
  obtain ⟨fs, hr, hrun, hended, hW, hsame⟩ := X2.leave (v := some (.int (1 : Int32))) (fun h => by rw [Bd.returns] at h; cases h)
  exact ⟨_, _, retN X2 hx (t := .boolean) Bd.returns (by simp) (hb hby at_37) hr, hrun, hended, _, _, rfl, ⟨rfl, N2, e2⟩, ⟨_, rfl⟩, hW, hsame.mono (by decide) (by decide)⟩
theorem d1_63 : decode method_2_code 63 = .ok (.iload_n 0, 1) := by decide +kernel
theorem d1_64 : decode method_2_code 64 = .ok (.bipush 7, 2) := by decide +kernel
theorem d1_66 : decode method_2_code 66 = .ok (.if_icmp .ne 7, 3) := by decide +kernel
theorem d1_69 : decode method_2_code 69 = .ok (.getstatic 31, 3) := by decide +kernel
theorem d1_72 : decode method_2_code 72 = .ok (.areturn, 1) := by decide +kernel
set_option maxRecDepth 65536 in
set_option maxHeartbeats 40000000 in
theorem rm1_7 (l : Launch) (Z : State) (a0 : Array Value) (hw : ∀ d ∈ tables_1, d.before a0 Z = true) (ws : List Jvm.Cond) (w_MONEY w_COUNT w_YEARS w_RATE w_FLAG w_DATE w_TABLE w_CHOICE w_MONTH : Addr) (h0 : Heap) (n0 : Nat) (PN : own_Pins Z h0 w_MONEY w_COUNT w_YEARS w_RATE w_FLAG w_DATE w_TABLE w_CHOICE w_MONTH) :
    MetFree l (⟨"com/example/vestry/vestry/model/KindIsNumberPinLaw", "pick", "(I)Lcom/example/vestry/vestry/model/Kind;"⟩ : MethodName) (head1 (Jvm.Cond.code (⟨"com/example/vestry/vestry/model/KindIsNumberPinLaw", "pick", "(I)Lcom/example/vestry/vestry/model/Kind;"⟩ : MethodName) method_2_code 1 (some (.object "com/example/vestry/vestry/model/Kind")) :: ws) ({ frames := 0, cells := 0, slots := 0, locals := 0 } : Room)) (fun a U => a = #[(.int (7 : Int32))] ∧ Z.Warmed39 U.vm ∧ U.heap = h0) (fun _ _ _ _ _ => True) (fun _ U o U' => ∃ v L, o = .returned v ∧ own_Q h0 n0 (some (.ref w_FLAG)) v U'.heap L ∧ FrameEnd U o U' L ({ frames := 0, cells := 0, slots := 0, locals := 0 } : Room).cells ({ frames := 0, cells := 0, slots := 0, locals := 0 } : Room).slots) := by
  obtain ⟨S_MONEY, E_MONEY, S_COUNT, E_COUNT, S_YEARS, E_YEARS, S_RATE, E_RATE, S_FLAG, E_FLAG, S_DATE, E_DATE, S_TABLE, E_TABLE, S_CHOICE, E_CHOICE, S_MONTH, E_MONTH, F_COUNT_ordinal, F_MONEY_ordinal, F_YEARS_ordinal, F_RATE_ordinal, F_FLAG_ordinal, F_DATE_ordinal, F_TABLE_ordinal, F_CHOICE_ordinal, F_MONTH_ordinal⟩ := PN
  refine MetFree.of_bodySF (plainFor_of_name pn_com_example_vestry_vestry_model_KindIsNumberPinLaw) hisR ?_
  intro p e s m args below meth c s₁ Bd hml0 hP hK
  obtain ⟨rfl, hZ, hh⟩ := hP
  have hx := Bd.exec
  have hby := Bd.bytes
  have hml : c.maxLocals = 1 := hml0
  have hown : s.vm.findClass "com/example/vestry/vestry/model/KindIsNumberPinLaw" = some m.cls := findClass_of_methodNamed Bd.named
  have X0 : Stand p l e ({ frames := 0, cells := 0, slots := 0, locals := 0 } : Room) s m #[(.int (7 : Int32))] below meth c s₁ [] 0 0 := Stand.of_body Bd
  have e0 : s₁.heap = h0 := by rw [← hh, Bd.state]; rfl
  have N0 := Fr.nil n0
  refine (?_ : own_Fin p e below _ _)
  refine own_st (fun t k => castTop (ef_1_I m (7 : Int32)) k) ?_
  show own_Fin p e below _ (s₁.setTop (mkF m 0 #[.val (.int (7 : Int32))] []))
  refine own_st (fun t k => XS.iloadN X0.here hx rfl (hb hby d1_0) rfl k) ?_
  show own_Fin p e below _ (s₁.setTop (mkF m 1 #[.val (.int (7 : Int32))] [(.int (7 : Int32))]))
  refine own_st (fun t k => XS.ifYes X0.here hx rfl (pc0 := 1) (pc' := 8) rfl (hb hby d1_1) rfl (by decide) (by decide) (by decide) k) ?_
  show own_Fin p e below _ (s₁.setTop (mkF m 8 #[.val (.int (7 : Int32))] []))
  refine own_st (fun t k => XS.iloadN X0.here hx rfl (hb hby d1_8) rfl k) ?_
  show own_Fin p e below _ (s₁.setTop (mkF m 9 #[.val (.int (7 : Int32))] [(.int (7 : Int32))]))
  refine own_st (fun t k => XS.iconst X0.here hx rfl (hb hby d1_9) k) ?_
  show own_Fin p e below _ (s₁.setTop (mkF m 10 #[.val (.int (7 : Int32))] [(.int (1 : Int32)), (.int (7 : Int32))]))
  refine own_st (fun t k => XS.icmpYes X0.here hx rfl (pc0 := 10) (pc' := 17) rfl (hb hby d1_10) rfl (by decide) (by decide) (by decide) k) ?_
  show own_Fin p e below _ (s₁.setTop (mkF m 17 #[.val (.int (7 : Int32))] []))
  refine own_st (fun t k => XS.iloadN X0.here hx rfl (hb hby d1_17) rfl k) ?_
  show own_Fin p e below _ (s₁.setTop (mkF m 18 #[.val (.int (7 : Int32))] [(.int (7 : Int32))]))
  refine own_st (fun t k => XS.iconst X0.here hx rfl (hb hby d1_18) k) ?_
  show own_Fin p e below _ (s₁.setTop (mkF m 19 #[.val (.int (7 : Int32))] [(.int (2 : Int32)), (.int (7 : Int32))]))
  refine own_st (fun t k => XS.icmpYes X0.here hx rfl (pc0 := 19) (pc' := 26) rfl (hb hby d1_19) rfl (by decide) (by decide) (by decide) k) ?_
  show own_Fin p e below _ (s₁.setTop (mkF m 26 #[.val (.int (7 : Int32))] []))
  refine own_st (fun t k => XS.iloadN X0.here hx rfl (hb hby d1_26) rfl k) ?_
  show own_Fin p e below _ (s₁.setTop (mkF m 27 #[.val (.int (7 : Int32))] [(.int (7 : Int32))]))
  refine own_st (fun t k => XS.iconst X0.here hx rfl (hb hby d1_27) k) ?_
  show own_Fin p e below _ (s₁.setTop (mkF m 28 #[.val (.int (7 : Int32))] [(.int (3 : Int32)), (.int (7 : Int32))]))
  refine own_st (fun t k => XS.icmpYes X0.here hx rfl (pc0 := 28) (pc' := 35) rfl (hb hby d1_28) rfl (by decide) (by decide) (by decide) k) ?_
  show own_Fin p e below _ (s₁.setTop (mkF m 35 #[.val (.int (7 : Int32))] []))
  refine own_st (fun t k => XS.iloadN X0.here hx rfl (hb hby d1_35) rfl k) ?_
  show own_Fin p e below _ (s₁.setTop (mkF m 36 #[.val (.int (7 : Int32))] [(.int (7 : Int32))]))
  refine own_st (fun t k => XS.iconst X0.here hx rfl (hb hby d1_36) k) ?_
  show own_Fin p e below _ (s₁.setTop (mkF m 37 #[.val (.int (7 : Int32))] [(.int (4 : Int32)), (.int (7 : Int32))]))
  refine own_st (fun t k => XS.icmpYes X0.here hx rfl (pc0 := 37) (pc' := 44) rfl (hb hby d1_37) rfl (by decide) (by decide) (by decide) k) ?_
  show own_Fin p e below _ (s₁.setTop (mkF m 44 #[.val (.int (7 : Int32))] []))
  refine own_st (fun t k => XS.iloadN X0.here hx rfl (hb hby d1_44) rfl k) ?_
  show own_Fin p e below _ (s₁.setTop (mkF m 45 #[.val (.int (7 : Int32))] [(.int (7 : Int32))]))
  refine own_st (fun t k => XS.iconst X0.here hx rfl (hb hby d1_45) k) ?_
  show own_Fin p e below _ (s₁.setTop (mkF m 46 #[.val (.int (7 : Int32))] [(.int (5 : Int32)), (.int (7 : Int32))]))
  refine own_st (fun t k => XS.icmpYes X0.here hx rfl (pc0 := 46) (pc' := 53) rfl (hb hby d1_46) rfl (by decide) (by decide) (by decide) k) ?_
  show own_Fin p e below _ (s₁.setTop (mkF m 53 #[.val (.int (7 : Int32))] []))
  refine own_st (fun t k => XS.iloadN X0.here hx rfl (hb hby d1_53) rfl k) ?_
  show own_Fin p e below _ (s₁.setTop (mkF m 54 #[.val (.int (7 : Int32))] [(.int (7 : Int32))]))
  refine own_st (fun t k => XS.bipush X0.here hx rfl (hb hby d1_54) k) ?_
  show own_Fin p e below _ (s₁.setTop (mkF m 56 #[.val (.int (7 : Int32))] [(.int (6 : Int32)), (.int (7 : Int32))]))
  refine own_st (fun t k => XS.icmpYes X0.here hx rfl (pc0 := 56) (pc' := 63) rfl (hb hby d1_56) rfl (by decide) (by decide) (by decide) k) ?_
  show own_Fin p e below _ (s₁.setTop (mkF m 63 #[.val (.int (7 : Int32))] []))
  refine own_st (fun t k => XS.iloadN X0.here hx rfl (hb hby d1_63) rfl k) ?_
  show own_Fin p e below _ (s₁.setTop (mkF m 64 #[.val (.int (7 : Int32))] [(.int (7 : Int32))]))
  refine own_st (fun t k => XS.bipush X0.here hx rfl (hb hby d1_64) k) ?_
  show own_Fin p e below _ (s₁.setTop (mkF m 66 #[.val (.int (7 : Int32))] [(.int (7 : Int32)), (.int (7 : Int32))]))
  refine own_st (fun t k => XS.icmpNo X0.here hx rfl (hb hby d1_66) rfl (by decide) k) ?_
  show own_Fin p e below _ (s₁.setTop (mkF m 69 #[.val (.int (7 : Int32))] []))
  obtain ⟨T1, X1, e1, st1⟩ := getS2 X0 hx hZ hown (host := "") (Or.inl (hw _ (List.mem_of_getElem? (i := 23) rfl))) Via.refl e0 S_FLAG (g := (mkF m 69 #[.val (.int (7 : Int32))] [])) rfl (hb hby d1_69)
  refine own_st st1 ?_
  show own_Fin p e below _ (T1.setTop (mkF m 72 #[.val (.int (7 : Int32))] [(.ref w_FLAG)]))
  obtain ⟨fs, hr, hrun, hended, hW, hsame⟩ := X1.leave (v := some (.ref w_FLAG)) (fun h => by rw [Bd.returns] at h; cases h)
  exact ⟨_, _, retOut X1 hx (t := (.object "com/example/vestry/vestry/model/Kind")) Bd.returns rfl (Or.inr (Or.inr (Or.inr (Or.inr ⟨rfl, rfl, rfl⟩)))) (hb hby d1_72) hr, hrun, hended, _, _, rfl, ⟨rfl, N0, e1⟩, ⟨_, rfl⟩, hW, hsame.mono (by decide) (by decide)⟩
set_option maxRecDepth 65536 in
set_option maxHeartbeats 40000000 in
theorem rm2_w_FLAG (l : Launch) (Z : State) (a0 : Array Value) (hw : ∀ d ∈ tables_1, d.before a0 Z = true) (ws : List Jvm.Cond) (w_MONEY w_COUNT w_YEARS w_RATE w_FLAG w_DATE w_TABLE w_CHOICE w_MONTH : Addr) (h0 : Heap) (n0 : Nat) (PN : own_Pins Z h0 w_MONEY w_COUNT w_YEARS w_RATE w_FLAG w_DATE w_TABLE w_CHOICE w_MONTH) :
    MetFree l (⟨"com/example/vestry/vestry/model/Kind", "isNumber", "()Z"⟩ : MethodName) (head1 (Jvm.Cond.code (⟨"com/example/vestry/vestry/model/Kind", "isNumber", "()Z"⟩ : MethodName) prog_42_method_5_code 1 (some .boolean) :: ws) ({ frames := 0, cells := 0, slots := 0, locals := 0 } : Room)) (fun a U => a = #[(.ref w_FLAG)] ∧ Z.Warmed39 U.vm ∧ U.heap = h0) (fun _ _ _ _ _ => True) (fun _ U o U' => ∃ v L, o = .returned v ∧ own_Q h0 n0 (some (.int (0 : Int32))) v U'.heap L ∧ FrameEnd U o U' L ({ frames := 0, cells := 0, slots := 0, locals := 0 } : Room).cells ({ frames := 0, cells := 0, slots := 0, locals := 0 } : Room).slots) := by
  obtain ⟨S_MONEY, E_MONEY, S_COUNT, E_COUNT, S_YEARS, E_YEARS, S_RATE, E_RATE, S_FLAG, E_FLAG, S_DATE, E_DATE, S_TABLE, E_TABLE, S_CHOICE, E_CHOICE, S_MONTH, E_MONTH, F_COUNT_ordinal, F_MONEY_ordinal, F_YEARS_ordinal, F_RATE_ordinal, F_FLAG_ordinal, F_DATE_ordinal, F_TABLE_ordinal, F_CHOICE_ordinal, F_MONTH_ordinal⟩ := PN
  refine MetFree.of_bodySF (plainFor_of_name pn_com_example_vestry_vestry_model_Kind) hisR ?_
  intro p e s m args below meth c s₁ Bd hml0 hP hK
  obtain ⟨rfl, hZ, hh⟩ := hP
  have hx := Bd.exec
  have hby := Bd.bytes
  have hml : c.maxLocals = 1 := hml0
  have hown : s.vm.findClass "com/example/vestry/vestry/model/Kind" = some m.cls := findClass_of_methodNamed Bd.named
  have X0 : Stand p l e ({ frames := 0, cells := 0, slots := 0, locals := 0 } : Room) s m #[(.ref w_FLAG)] below meth c s₁ [] 0 0 := Stand.of_body Bd
  have e0 : s₁.heap = h0 := by rw [← hh, Bd.state]; rfl
  have N0 := Fr.nil n0
  refine (?_ : own_Fin p e below _ _)
  refine own_st (fun t k => castTop (ef_2_R m w_FLAG) k) ?_
  show own_Fin p e below _ (s₁.setTop (mkF m 0 #[.val (.ref w_FLAG)] []))
  refine own_st (fun t k => XS.aloadN X0.here hx rfl (hb hby d2_0) rfl rfl k) ?_
  show own_Fin p e below _ (s₁.setTop (mkF m 1 #[.val (.ref w_FLAG)] [(.ref w_FLAG)]))
  obtain ⟨T1, X1, e1, st1⟩ := getS2 X0 hx hZ hown (host := "") (Or.inl (hw _ (List.mem_of_getElem? (i := 13) rfl))) Via.refl e0 S_MONEY (g := (mkF m 1 #[.val (.ref w_FLAG)] [(.ref w_FLAG)])) rfl (hb hby d2_1)
  refine own_st st1 ?_
  show own_Fin p e below _ (T1.setTop (mkF m 4 #[.val (.ref w_FLAG)] [(.ref w_MONEY), (.ref w_FLAG)]))
  refine own_st (fun t k => Jvm.RoadKit.acmp (g := (mkF m 4 #[.val (.ref w_FLAG)] [(.ref w_MONEY), (.ref w_FLAG)])) X1 hx rfl rfl rfl (pc0 := 4) (pc' := 7) (same := false) rfl (hb hby d2_4) rfl (decide_eq_false fun q => (Fld.ne F_FLAG_ordinal F_MONEY_ordinal (by simp)) (Value.ref.inj q)) (by decide) (by decide) k) ?_
  show own_Fin p e below _ (T1.setTop (mkF m 7 #[.val (.ref w_FLAG)] []))
  refine own_st (fun t k => XS.aloadN X1.here hx rfl (hb hby d2_7) rfl rfl k) ?_
  show own_Fin p e below _ (T1.setTop (mkF m 8 #[.val (.ref w_FLAG)] [(.ref w_FLAG)]))
  obtain ⟨T2, X2, e2, st2⟩ := getS2 X1 hx hZ hown (host := "") (Or.inl (hw _ (List.mem_of_getElem? (i := 16) rfl))) Via.refl e1 S_YEARS (g := (mkF m 8 #[.val (.ref w_FLAG)] [(.ref w_FLAG)])) rfl (hb hby d2_8)
  refine own_st st2 ?_
  show own_Fin p e below _ (T2.setTop (mkF m 11 #[.val (.ref w_FLAG)] [(.ref w_YEARS), (.ref w_FLAG)]))
  refine own_st (fun t k => Jvm.RoadKit.acmp (g := (mkF m 11 #[.val (.ref w_FLAG)] [(.ref w_YEARS), (.ref w_FLAG)])) X2 hx rfl rfl rfl (pc0 := 11) (pc' := 14) (same := false) rfl (hb hby d2_11) rfl (decide_eq_false fun q => (Fld.ne F_FLAG_ordinal F_YEARS_ordinal (by simp)) (Value.ref.inj q)) (by decide) (by decide) k) ?_
  show own_Fin p e below _ (T2.setTop (mkF m 14 #[.val (.ref w_FLAG)] []))
  refine own_st (fun t k => XS.aloadN X2.here hx rfl (hb hby d2_14) rfl rfl k) ?_
  show own_Fin p e below _ (T2.setTop (mkF m 15 #[.val (.ref w_FLAG)] [(.ref w_FLAG)]))
  obtain ⟨T3, X3, e3, st3⟩ := getS2 X2 hx hZ hown (host := "") (Or.inl (hw _ (List.mem_of_getElem? (i := 18) rfl))) Via.refl e2 S_RATE (g := (mkF m 15 #[.val (.ref w_FLAG)] [(.ref w_FLAG)])) rfl (hb hby d2_15)
  refine own_st st3 ?_
  show own_Fin p e below _ (T3.setTop (mkF m 18 #[.val (.ref w_FLAG)] [(.ref w_RATE), (.ref w_FLAG)]))
  refine own_st (fun t k => Jvm.RoadKit.acmp (g := (mkF m 18 #[.val (.ref w_FLAG)] [(.ref w_RATE), (.ref w_FLAG)])) X3 hx rfl rfl rfl (pc0 := 18) (pc' := 21) (same := false) rfl (hb hby d2_18) rfl (decide_eq_false fun q => (Fld.ne F_FLAG_ordinal F_RATE_ordinal (by simp)) (Value.ref.inj q)) (by decide) (by decide) k) ?_
  show own_Fin p e below _ (T3.setTop (mkF m 21 #[.val (.ref w_FLAG)] []))
  refine own_st (fun t k => XS.aloadN X3.here hx rfl (hb hby d2_21) rfl rfl k) ?_
  show own_Fin p e below _ (T3.setTop (mkF m 22 #[.val (.ref w_FLAG)] [(.ref w_FLAG)]))
  obtain ⟨T4, X4, e4, st4⟩ := getS2 X3 hx hZ hown (host := "") (Or.inl (hw _ (List.mem_of_getElem? (i := 20) rfl))) Via.refl e3 S_COUNT (g := (mkF m 22 #[.val (.ref w_FLAG)] [(.ref w_FLAG)])) rfl (hb hby d2_22)
  refine own_st st4 ?_
  show own_Fin p e below _ (T4.setTop (mkF m 25 #[.val (.ref w_FLAG)] [(.ref w_COUNT), (.ref w_FLAG)]))
  refine own_st (fun t k => Jvm.RoadKit.acmp (g := (mkF m 25 #[.val (.ref w_FLAG)] [(.ref w_COUNT), (.ref w_FLAG)])) X4 hx rfl rfl rfl (pc0 := 25) (pc' := 32) (same := false) rfl (hb hby d2_25) rfl (decide_eq_false fun q => (Fld.ne F_FLAG_ordinal F_COUNT_ordinal (by simp)) (Value.ref.inj q)) (by decide) (by decide) k) ?_
  show own_Fin p e below _ (T4.setTop (mkF m 32 #[.val (.ref w_FLAG)] []))
  refine own_st (fun t k => XS.iconst X4.here hx rfl (hb hby d2_32) k) ?_
  show own_Fin p e below _ (T4.setTop (mkF m 33 #[.val (.ref w_FLAG)] [(.int (0 : Int32))]))
  obtain ⟨fs, hr, hrun, hended, hW, hsame⟩ := X4.leave (v := some (.int (0 : Int32))) (fun h => by rw [Bd.returns] at h; cases h)
  exact ⟨_, _, retN X4 hx (t := .boolean) Bd.returns (by simp) (hb hby d2_33) hr, hrun, hended, _, _, rfl, ⟨rfl, N0, e4⟩, ⟨_, rfl⟩, hW, hsame.mono (by decide) (by decide)⟩
set_option maxRecDepth 65536 in
set_option maxHeartbeats 40000000 in
theorem rm0_c7 (l : Launch) (Z : State) (a0 : Array Value) (hw : ∀ d ∈ tables_1, d.before a0 Z = true) (ws : List Jvm.Cond) (w_MONEY w_COUNT w_YEARS w_RATE w_FLAG w_DATE w_TABLE w_CHOICE w_MONTH : Addr) (p0 : Int32) (h0 : Heap) (n0 : Nat) (PN : own_Pins Z h0 w_MONEY w_COUNT w_YEARS w_RATE w_FLAG w_DATE w_TABLE w_CHOICE w_MONTH) (q0 : ((p0 &&& (2147483647 : Int32)) % (9 : Int32)) = (7 : Int32)) :
    MetFree l x (head1 (Jvm.Cond.code x code maxLocals ret :: ws) room_1) (fun a U => a = #[(.int p0)] ∧ Z.Warmed39 U.vm ∧ U.heap = h0) (fun _ _ _ _ _ => True) (fun _ U o U' => ∃ v L, o = .returned v ∧ own_Q h0 n0 (some (.int (1 : Int32))) v U'.heap L ∧ FrameEnd U o U' L room_1.cells room_1.slots) := by
  obtain ⟨S_MONEY, E_MONEY, S_COUNT, E_COUNT, S_YEARS, E_YEARS, S_RATE, E_RATE, S_FLAG, E_FLAG, S_DATE, E_DATE, S_TABLE, E_TABLE, S_CHOICE, E_CHOICE, S_MONTH, E_MONTH, F_COUNT_ordinal, F_MONEY_ordinal, F_YEARS_ordinal, F_RATE_ordinal, F_FLAG_ordinal, F_DATE_ordinal, F_TABLE_ordinal, F_CHOICE_ordinal, F_MONTH_ordinal⟩ := PN
  refine MetFree.of_bodySF (plainFor_of_name pn_com_example_vestry_vestry_model_KindIsNumberPinLaw) hisR ?_
  intro p e s m args below meth c s₁ Bd hml0 hP hK
  obtain ⟨rfl, hZ, hh⟩ := hP
  have hx := Bd.exec
  have hby := Bd.bytes
  have hml : c.maxLocals = 4 := hml0
  have hown : s.vm.findClass "com/example/vestry/vestry/model/KindIsNumberPinLaw" = some m.cls := findClass_of_methodNamed Bd.named
  have X0 : Stand p l e room_1 s m #[(.int p0)] below meth c s₁ [] 0 0 := Stand.of_body Bd
  have e0 : s₁.heap = h0 := by rw [← hh, Bd.state]; rfl
  have N0 := Fr.nil n0
  refine (?_ : own_Fin p e below _ _)
  refine own_st (fun t k => castTop (ef_0_I m p0) k) ?_
  show own_Fin p e below _ (s₁.setTop (mkF m 0 #[.val (.int p0), .unset, .unset, .unset] []))
  refine own_st (fun t k => XS.iloadN X0.here hx rfl (hb hby at_0) rfl k) ?_
  show own_Fin p e below _ (s₁.setTop (mkF m 1 #[.val (.int p0), .unset, .unset, .unset] [(.int p0)]))
  refine own_st (fun t k => X0.ldcI hx hown (mvT hZ (hw _ (List.mem_of_getElem? (i := 0) rfl))) rfl (hb hby at_1) k) ?_
  show own_Fin p e below _ (s₁.setTop (mkF m 3 #[.val (.int p0), .unset, .unset, .unset] [(.int (2147483647 : Int32)), (.int p0)]))
  refine own_st (fun t k => XS.iand X0.here hx rfl (hb hby at_3) rfl k) ?_
  show own_Fin p e below _ (s₁.setTop (mkF m 4 #[.val (.int p0), .unset, .unset, .unset] [(.int (p0 &&& (2147483647 : Int32)))]))
  refine own_st (fun t k => XS.bipush X0.here hx rfl (hb hby at_4) k) ?_
  show own_Fin p e below _ (s₁.setTop (mkF m 6 #[.val (.int p0), .unset, .unset, .unset] [(.int (9 : Int32)), (.int (p0 &&& (2147483647 : Int32)))]))
  refine own_st (fun t k => iremM X0 hx rfl (hb hby at_6) rfl (by decide) k) ?_
  show own_Fin p e below _ (s₁.setTop (mkF m 7 #[.val (.int p0), .unset, .unset, .unset] [(.int ((p0 &&& (2147483647 : Int32)) % (9 : Int32)))]))
  rw [q0]
  show own_Fin p e below _ (s₁.setTop (mkF m 7 #[.val (.int p0), .unset, .unset, .unset] [(.int (7 : Int32))]))
  refine own_st (fun t k => XS.istoreN X0.here hx rfl (hb hby at_7) rfl (l' := #[.val (.int p0), .val (.int (7 : Int32)), .unset, .unset]) rfl k) ?_
  show own_Fin p e below _ (s₁.setTop (mkF m 8 #[.val (.int p0), .val (.int (7 : Int32)), .unset, .unset] []))
  refine own_st (fun t k => XS.iloadN X0.here hx rfl (hb hby at_8) rfl k) ?_
  show own_Fin p e below _ (s₁.setTop (mkF m 9 #[.val (.int p0), .val (.int (7 : Int32)), .unset, .unset] [(.int (7 : Int32))]))
  obtain ⟨_, _, ⟨T1, L1, k1, n1⟩, -, X1, ⟨Lc1, hQ1, l1, y1, z1⟩, st1⟩ := Jvm.LawKit.callS X0 hx (y := (⟨"com/example/vestry/vestry/model/KindIsNumberPinLaw", "pick", "(I)Lcom/example/vestry/vestry/model/Kind;"⟩ : MethodName)) hown (mvT hZ (hw _ (List.mem_of_getElem? (i := 1) rfl))) (mvT hZ (hw _ (List.mem_of_getElem? (i := 2) rfl))) (mvT hZ (hw _ (List.mem_of_getElem? (i := 3) rfl))) (mvT hZ (hw _ (List.mem_of_getElem? (i := 4) rfl))) (by decide) (backOf (W := 0) (rm1_7 l Z a0 hw [] w_MONEY w_COUNT w_YEARS w_RATE w_FLAG w_DATE w_TABLE w_CHOICE w_MONTH h0 n0 (by exact ⟨S_MONEY, E_MONEY, S_COUNT, E_COUNT, S_YEARS, E_YEARS, S_RATE, E_RATE, S_FLAG, E_FLAG, S_DATE, E_DATE, S_TABLE, E_TABLE, S_CHOICE, E_CHOICE, S_MONTH, E_MONTH, F_COUNT_ordinal, F_MONEY_ordinal, F_YEARS_ordinal, F_RATE_ordinal, F_FLAG_ordinal, F_DATE_ordinal, F_TABLE_ordinal, F_CHOICE_ordinal, F_MONTH_ordinal⟩)) hZ (hw _ (List.mem_of_getElem? (i := 4) rfl)) (hw _ (List.mem_of_getElem? (i := 3) rfl)) (by decide) (by decide)) (g := (mkF m 9 #[.val (.int p0), .val (.int (7 : Int32)), .unset, .unset] [(.int (7 : Int32))])) rfl (by rw [hml]; rfl) (argsL := [(.int (7 : Int32))]) (rest := []) (lenOf pd__I_Lcom_example_vestry_vestry_model_Kind_ rfl) rfl (by show 2 * 0 + _ ≤ _; exact Nat.le_of_eq rfl) (hb hby at_9) (fun _ _ => ⟨rfl, e0, (by decide : 0 + 0 ≤ _), (by decide : 0 + 0 ≤ _)⟩)
  dsimp only [Pt.U, Pt.locs, Pt.cells, Pt.slots] at X1 l1 y1 z1 st1 hQ1
  subst l1 y1 z1
  obtain ⟨rfl, N1q, e1⟩ := hQ1
  have N1 := Fr.app N0 N1q
  refine own_st st1 ?_
  show own_Fin p e below _ (T1.setTop (mkF m 12 #[.val (.int p0), .val (.int (7 : Int32)), .unset, .unset] [(.ref w_FLAG)]))
  refine own_st (fun t k => XS.astoreN X1.here hx rfl (hb hby at_12) rfl rfl (l' := #[.val (.int p0), .val (.int (7 : Int32)), .val (.ref w_FLAG), .unset]) rfl k) ?_
  show own_Fin p e below _ (T1.setTop (mkF m 13 #[.val (.int p0), .val (.int (7 : Int32)), .val (.ref w_FLAG), .unset] []))
  refine own_st (fun t k => XS.iloadN X1.here hx rfl (hb hby at_13) rfl k) ?_
  show own_Fin p e below _ (T1.setTop (mkF m 14 #[.val (.int p0), .val (.int (7 : Int32)), .val (.ref w_FLAG), .unset] [(.int (7 : Int32))]))
  refine own_st (fun t k => XS.iconst X1.here hx rfl (hb hby at_14) k) ?_
  show own_Fin p e below _ (T1.setTop (mkF m 15 #[.val (.int p0), .val (.int (7 : Int32)), .val (.ref w_FLAG), .unset] [(.int (4 : Int32)), (.int (7 : Int32))]))
  refine own_st (fun t k => XS.icmpYes X1.here hx rfl (pc0 := 15) (pc' := 22) rfl (hb hby at_15) rfl (by decide) (by decide) (by decide) k) ?_
  show own_Fin p e below _ (T1.setTop (mkF m 22 #[.val (.int p0), .val (.int (7 : Int32)), .val (.ref w_FLAG), .unset] []))
  refine own_st (fun t k => XS.iconst X1.here hx rfl (hb hby at_22) k) ?_
  show own_Fin p e below _ (T1.setTop (mkF m 23 #[.val (.int p0), .val (.int (7 : Int32)), .val (.ref w_FLAG), .unset] [(.int (0 : Int32))]))
  refine own_st (fun t k => XS.istoreN X1.here hx rfl (hb hby at_23) rfl (l' := #[.val (.int p0), .val (.int (7 : Int32)), .val (.ref w_FLAG), .val (.int (0 : Int32))]) rfl k) ?_
  show own_Fin p e below _ (T1.setTop (mkF m 24 #[.val (.int p0), .val (.int (7 : Int32)), .val (.ref w_FLAG), .val (.int (0 : Int32))] []))
  refine own_st (fun t k => XS.aloadN X1.here hx rfl (hb hby at_24) rfl rfl k) ?_
  show own_Fin p e below _ (T1.setTop (mkF m 25 #[.val (.int p0), .val (.int (7 : Int32)), .val (.ref w_FLAG), .val (.int (0 : Int32))] [(.ref w_FLAG)]))
  obtain ⟨cq2, kq2, q2a, q2b, q2c⟩ := isOf hZ e1 E_FLAG
  obtain ⟨_, _, ⟨T2, L2, k2, n2⟩, -, X2, ⟨Lc2, hQ2, l2, y2, z2⟩, st2⟩ := X1.virtualBack hx (y := (⟨"com/example/vestry/vestry/model/Kind", "isNumber", "()Z"⟩ : MethodName)) (z := (⟨"com/example/vestry/vestry/model/Kind", "isNumber", "()Z"⟩ : MethodName)) hown (mvT hZ (hw _ (List.mem_of_getElem? (i := 8) rfl))) (mvT hZ (hw _ (List.mem_of_getElem? (i := 9) rfl))) (notFace_of_selects (args := #[]) (mvT hZ (hw _ (List.mem_of_getElem? (i := 11) rfl)))) (mvT hZ (hw _ (List.mem_of_getElem? (i := 11) rfl))) (mvT hZ (hw _ (List.mem_of_getElem? (i := 10) rfl))) (by decide) (backOf (W := 0) (rm2_w_FLAG l Z a0 hw [] w_MONEY w_COUNT w_YEARS w_RATE w_FLAG w_DATE w_TABLE w_CHOICE w_MONTH h0 n0 (by exact ⟨S_MONEY, E_MONEY, S_COUNT, E_COUNT, S_YEARS, E_YEARS, S_RATE, E_RATE, S_FLAG, E_FLAG, S_DATE, E_DATE, S_TABLE, E_TABLE, S_CHOICE, E_CHOICE, S_MONTH, E_MONTH, F_COUNT_ordinal, F_MONEY_ordinal, F_YEARS_ordinal, F_RATE_ordinal, F_FLAG_ordinal, F_DATE_ordinal, F_TABLE_ordinal, F_CHOICE_ordinal, F_MONTH_ordinal⟩)) hZ (hw _ (List.mem_of_getElem? (i := 12) rfl)) (hw _ (List.mem_of_getElem? (i := 6) rfl)) (by decide) (by decide)) q2a q2c (g := (mkF m 25 #[.val (.int p0), .val (.int (7 : Int32)), .val (.ref w_FLAG), .val (.int (0 : Int32))] [(.ref w_FLAG)])) rfl (by rw [hml]; rfl) (Steps.refl _) (argsL := []) (rest := []) (lenOf pd___Z rfl) rfl (by show 2 * 0 + _ ≤ _; exact Nat.le_of_eq rfl) (hb hby at_25) (fun _ _ => ⟨rfl, e1, (by decide : 0 + 0 ≤ _), (by decide : 0 + 0 ≤ _)⟩)
  dsimp only [Pt.U, Pt.locs, Pt.cells, Pt.slots] at X2 l2 y2 z2 st2 hQ2
  subst l2 y2 z2
  obtain ⟨rfl, N2q, e2⟩ := hQ2
  have N2 := Fr.app N1 N2q
  refine own_tr st2 ?_
  show own_Fin p e below _ (T2.setTop (mkF m 28 #[.val (.int p0), .val (.int (7 : Int32)), .val (.ref w_FLAG), .val (.int (0 : Int32))] [(.int (0 : Int32))]))
  refine own_st (fun t k => XS.iloadN X2.here hx rfl (hb hby at_28) rfl k) ?_
  show own_Fin p e below _ (T2.setTop (mkF m 29 #[.val (.int p0), .val (.int (7 : Int32)), .val (.ref w_FLAG), .val (.int (0 : Int32))] [(.int (0 : Int32)), (.int (0 : Int32))]))
  refine own_st (fun t k => XS.icmpNo X2.here hx rfl (hb hby at_29) rfl (by decide) k) ?_
  show own_Fin p e below _ (T2.setTop (mkF m 32 #[.val (.int p0), .val (.int (7 : Int32)), .val (.ref w_FLAG), .val (.int (0 : Int32))] []))
  refine own_st (fun t k => XS.iconst X2.here hx rfl (hb hby at_32) k) ?_
  show own_Fin p e below _ (T2.setTop (mkF m 33 #[.val (.int p0), .val (.int (7 : Int32)), .val (.ref w_FLAG), .val (.int (0 : Int32))] [(.int (1 : Int32))]))
  refine own_st (fun t k => XS.goto X2.here hx rfl (pc0 := 33) (pc' := 37) rfl (hb hby at_33) (by decide) (by decide) k) ?_
  show own_Fin p e below _ (T2.setTop (mkF m 37 #[.val (.int p0), .val (.int (7 : Int32)), .val (.ref w_FLAG), .val (.int (0 : Int32))] [(.int (1 : Int32))]))
  obtain ⟨fs, hr, hrun, hended, hW, hsame⟩ := X2.leave (v := some (.int (1 : Int32))) (fun h => by rw [Bd.returns] at h; cases h)
  exact ⟨_, _, retN X2 hx (t := .boolean) Bd.returns (by simp) (hb hby at_37) hr, hrun, hended, _, _, rfl, ⟨rfl, N2, e2⟩, ⟨_, rfl⟩, hW, hsame.mono (by decide) (by decide)⟩
theorem d1_73 : decode method_2_code 73 = .ok (.getstatic 34, 3) := by decide +kernel
theorem d1_76 : decode method_2_code 76 = .ok (.areturn, 1) := by decide +kernel
set_option maxRecDepth 65536 in
set_option maxHeartbeats 40000000 in
theorem rm1_8 (l : Launch) (Z : State) (a0 : Array Value) (hw : ∀ d ∈ tables_1, d.before a0 Z = true) (ws : List Jvm.Cond) (w_MONEY w_COUNT w_YEARS w_RATE w_FLAG w_DATE w_TABLE w_CHOICE w_MONTH : Addr) (h0 : Heap) (n0 : Nat) (PN : own_Pins Z h0 w_MONEY w_COUNT w_YEARS w_RATE w_FLAG w_DATE w_TABLE w_CHOICE w_MONTH) :
    MetFree l (⟨"com/example/vestry/vestry/model/KindIsNumberPinLaw", "pick", "(I)Lcom/example/vestry/vestry/model/Kind;"⟩ : MethodName) (head1 (Jvm.Cond.code (⟨"com/example/vestry/vestry/model/KindIsNumberPinLaw", "pick", "(I)Lcom/example/vestry/vestry/model/Kind;"⟩ : MethodName) method_2_code 1 (some (.object "com/example/vestry/vestry/model/Kind")) :: ws) ({ frames := 0, cells := 0, slots := 0, locals := 0 } : Room)) (fun a U => a = #[(.int (8 : Int32))] ∧ Z.Warmed39 U.vm ∧ U.heap = h0) (fun _ _ _ _ _ => True) (fun _ U o U' => ∃ v L, o = .returned v ∧ own_Q h0 n0 (some (.ref w_TABLE)) v U'.heap L ∧ FrameEnd U o U' L ({ frames := 0, cells := 0, slots := 0, locals := 0 } : Room).cells ({ frames := 0, cells := 0, slots := 0, locals := 0 } : Room).slots) := by
  obtain ⟨S_MONEY, E_MONEY, S_COUNT, E_COUNT, S_YEARS, E_YEARS, S_RATE, E_RATE, S_FLAG, E_FLAG, S_DATE, E_DATE, S_TABLE, E_TABLE, S_CHOICE, E_CHOICE, S_MONTH, E_MONTH, F_COUNT_ordinal, F_MONEY_ordinal, F_YEARS_ordinal, F_RATE_ordinal, F_FLAG_ordinal, F_DATE_ordinal, F_TABLE_ordinal, F_CHOICE_ordinal, F_MONTH_ordinal⟩ := PN
  refine MetFree.of_bodySF (plainFor_of_name pn_com_example_vestry_vestry_model_KindIsNumberPinLaw) hisR ?_
  intro p e s m args below meth c s₁ Bd hml0 hP hK
  obtain ⟨rfl, hZ, hh⟩ := hP
  have hx := Bd.exec
  have hby := Bd.bytes
  have hml : c.maxLocals = 1 := hml0
  have hown : s.vm.findClass "com/example/vestry/vestry/model/KindIsNumberPinLaw" = some m.cls := findClass_of_methodNamed Bd.named
  have X0 : Stand p l e ({ frames := 0, cells := 0, slots := 0, locals := 0 } : Room) s m #[(.int (8 : Int32))] below meth c s₁ [] 0 0 := Stand.of_body Bd
  have e0 : s₁.heap = h0 := by rw [← hh, Bd.state]; rfl
  have N0 := Fr.nil n0
  refine (?_ : own_Fin p e below _ _)
  refine own_st (fun t k => castTop (ef_1_I m (8 : Int32)) k) ?_
  show own_Fin p e below _ (s₁.setTop (mkF m 0 #[.val (.int (8 : Int32))] []))
  refine own_st (fun t k => XS.iloadN X0.here hx rfl (hb hby d1_0) rfl k) ?_
  show own_Fin p e below _ (s₁.setTop (mkF m 1 #[.val (.int (8 : Int32))] [(.int (8 : Int32))]))
  refine own_st (fun t k => XS.ifYes X0.here hx rfl (pc0 := 1) (pc' := 8) rfl (hb hby d1_1) rfl (by decide) (by decide) (by decide) k) ?_
  show own_Fin p e below _ (s₁.setTop (mkF m 8 #[.val (.int (8 : Int32))] []))
  refine own_st (fun t k => XS.iloadN X0.here hx rfl (hb hby d1_8) rfl k) ?_
  show own_Fin p e below _ (s₁.setTop (mkF m 9 #[.val (.int (8 : Int32))] [(.int (8 : Int32))]))
  refine own_st (fun t k => XS.iconst X0.here hx rfl (hb hby d1_9) k) ?_
  show own_Fin p e below _ (s₁.setTop (mkF m 10 #[.val (.int (8 : Int32))] [(.int (1 : Int32)), (.int (8 : Int32))]))
  refine own_st (fun t k => XS.icmpYes X0.here hx rfl (pc0 := 10) (pc' := 17) rfl (hb hby d1_10) rfl (by decide) (by decide) (by decide) k) ?_
  show own_Fin p e below _ (s₁.setTop (mkF m 17 #[.val (.int (8 : Int32))] []))
  refine own_st (fun t k => XS.iloadN X0.here hx rfl (hb hby d1_17) rfl k) ?_
  show own_Fin p e below _ (s₁.setTop (mkF m 18 #[.val (.int (8 : Int32))] [(.int (8 : Int32))]))
  refine own_st (fun t k => XS.iconst X0.here hx rfl (hb hby d1_18) k) ?_
  show own_Fin p e below _ (s₁.setTop (mkF m 19 #[.val (.int (8 : Int32))] [(.int (2 : Int32)), (.int (8 : Int32))]))
  refine own_st (fun t k => XS.icmpYes X0.here hx rfl (pc0 := 19) (pc' := 26) rfl (hb hby d1_19) rfl (by decide) (by decide) (by decide) k) ?_
  show own_Fin p e below _ (s₁.setTop (mkF m 26 #[.val (.int (8 : Int32))] []))
  refine own_st (fun t k => XS.iloadN X0.here hx rfl (hb hby d1_26) rfl k) ?_
  show own_Fin p e below _ (s₁.setTop (mkF m 27 #[.val (.int (8 : Int32))] [(.int (8 : Int32))]))
  refine own_st (fun t k => XS.iconst X0.here hx rfl (hb hby d1_27) k) ?_
  show own_Fin p e below _ (s₁.setTop (mkF m 28 #[.val (.int (8 : Int32))] [(.int (3 : Int32)), (.int (8 : Int32))]))
  refine own_st (fun t k => XS.icmpYes X0.here hx rfl (pc0 := 28) (pc' := 35) rfl (hb hby d1_28) rfl (by decide) (by decide) (by decide) k) ?_
  show own_Fin p e below _ (s₁.setTop (mkF m 35 #[.val (.int (8 : Int32))] []))
  refine own_st (fun t k => XS.iloadN X0.here hx rfl (hb hby d1_35) rfl k) ?_
  show own_Fin p e below _ (s₁.setTop (mkF m 36 #[.val (.int (8 : Int32))] [(.int (8 : Int32))]))
  refine own_st (fun t k => XS.iconst X0.here hx rfl (hb hby d1_36) k) ?_
  show own_Fin p e below _ (s₁.setTop (mkF m 37 #[.val (.int (8 : Int32))] [(.int (4 : Int32)), (.int (8 : Int32))]))
  refine own_st (fun t k => XS.icmpYes X0.here hx rfl (pc0 := 37) (pc' := 44) rfl (hb hby d1_37) rfl (by decide) (by decide) (by decide) k) ?_
  show own_Fin p e below _ (s₁.setTop (mkF m 44 #[.val (.int (8 : Int32))] []))
  refine own_st (fun t k => XS.iloadN X0.here hx rfl (hb hby d1_44) rfl k) ?_
  show own_Fin p e below _ (s₁.setTop (mkF m 45 #[.val (.int (8 : Int32))] [(.int (8 : Int32))]))
  refine own_st (fun t k => XS.iconst X0.here hx rfl (hb hby d1_45) k) ?_
  show own_Fin p e below _ (s₁.setTop (mkF m 46 #[.val (.int (8 : Int32))] [(.int (5 : Int32)), (.int (8 : Int32))]))
  refine own_st (fun t k => XS.icmpYes X0.here hx rfl (pc0 := 46) (pc' := 53) rfl (hb hby d1_46) rfl (by decide) (by decide) (by decide) k) ?_
  show own_Fin p e below _ (s₁.setTop (mkF m 53 #[.val (.int (8 : Int32))] []))
  refine own_st (fun t k => XS.iloadN X0.here hx rfl (hb hby d1_53) rfl k) ?_
  show own_Fin p e below _ (s₁.setTop (mkF m 54 #[.val (.int (8 : Int32))] [(.int (8 : Int32))]))
  refine own_st (fun t k => XS.bipush X0.here hx rfl (hb hby d1_54) k) ?_
  show own_Fin p e below _ (s₁.setTop (mkF m 56 #[.val (.int (8 : Int32))] [(.int (6 : Int32)), (.int (8 : Int32))]))
  refine own_st (fun t k => XS.icmpYes X0.here hx rfl (pc0 := 56) (pc' := 63) rfl (hb hby d1_56) rfl (by decide) (by decide) (by decide) k) ?_
  show own_Fin p e below _ (s₁.setTop (mkF m 63 #[.val (.int (8 : Int32))] []))
  refine own_st (fun t k => XS.iloadN X0.here hx rfl (hb hby d1_63) rfl k) ?_
  show own_Fin p e below _ (s₁.setTop (mkF m 64 #[.val (.int (8 : Int32))] [(.int (8 : Int32))]))
  refine own_st (fun t k => XS.bipush X0.here hx rfl (hb hby d1_64) k) ?_
  show own_Fin p e below _ (s₁.setTop (mkF m 66 #[.val (.int (8 : Int32))] [(.int (7 : Int32)), (.int (8 : Int32))]))
  refine own_st (fun t k => XS.icmpYes X0.here hx rfl (pc0 := 66) (pc' := 73) rfl (hb hby d1_66) rfl (by decide) (by decide) (by decide) k) ?_
  show own_Fin p e below _ (s₁.setTop (mkF m 73 #[.val (.int (8 : Int32))] []))
  obtain ⟨T1, X1, e1, st1⟩ := getS2 X0 hx hZ hown (host := "") (Or.inl (hw _ (List.mem_of_getElem? (i := 27) rfl))) Via.refl e0 S_TABLE (g := (mkF m 73 #[.val (.int (8 : Int32))] [])) rfl (hb hby d1_73)
  refine own_st st1 ?_
  show own_Fin p e below _ (T1.setTop (mkF m 76 #[.val (.int (8 : Int32))] [(.ref w_TABLE)]))
  obtain ⟨fs, hr, hrun, hended, hW, hsame⟩ := X1.leave (v := some (.ref w_TABLE)) (fun h => by rw [Bd.returns] at h; cases h)
  exact ⟨_, _, retOut X1 hx (t := (.object "com/example/vestry/vestry/model/Kind")) Bd.returns rfl (Or.inr (Or.inr (Or.inr (Or.inr ⟨rfl, rfl, rfl⟩)))) (hb hby d1_76) hr, hrun, hended, _, _, rfl, ⟨rfl, N0, e1⟩, ⟨_, rfl⟩, hW, hsame.mono (by decide) (by decide)⟩
set_option maxRecDepth 65536 in
set_option maxHeartbeats 40000000 in
theorem rm2_w_TABLE (l : Launch) (Z : State) (a0 : Array Value) (hw : ∀ d ∈ tables_1, d.before a0 Z = true) (ws : List Jvm.Cond) (w_MONEY w_COUNT w_YEARS w_RATE w_FLAG w_DATE w_TABLE w_CHOICE w_MONTH : Addr) (h0 : Heap) (n0 : Nat) (PN : own_Pins Z h0 w_MONEY w_COUNT w_YEARS w_RATE w_FLAG w_DATE w_TABLE w_CHOICE w_MONTH) :
    MetFree l (⟨"com/example/vestry/vestry/model/Kind", "isNumber", "()Z"⟩ : MethodName) (head1 (Jvm.Cond.code (⟨"com/example/vestry/vestry/model/Kind", "isNumber", "()Z"⟩ : MethodName) prog_42_method_5_code 1 (some .boolean) :: ws) ({ frames := 0, cells := 0, slots := 0, locals := 0 } : Room)) (fun a U => a = #[(.ref w_TABLE)] ∧ Z.Warmed39 U.vm ∧ U.heap = h0) (fun _ _ _ _ _ => True) (fun _ U o U' => ∃ v L, o = .returned v ∧ own_Q h0 n0 (some (.int (0 : Int32))) v U'.heap L ∧ FrameEnd U o U' L ({ frames := 0, cells := 0, slots := 0, locals := 0 } : Room).cells ({ frames := 0, cells := 0, slots := 0, locals := 0 } : Room).slots) := by
  obtain ⟨S_MONEY, E_MONEY, S_COUNT, E_COUNT, S_YEARS, E_YEARS, S_RATE, E_RATE, S_FLAG, E_FLAG, S_DATE, E_DATE, S_TABLE, E_TABLE, S_CHOICE, E_CHOICE, S_MONTH, E_MONTH, F_COUNT_ordinal, F_MONEY_ordinal, F_YEARS_ordinal, F_RATE_ordinal, F_FLAG_ordinal, F_DATE_ordinal, F_TABLE_ordinal, F_CHOICE_ordinal, F_MONTH_ordinal⟩ := PN
  refine MetFree.of_bodySF (plainFor_of_name pn_com_example_vestry_vestry_model_Kind) hisR ?_
  intro p e s m args below meth c s₁ Bd hml0 hP hK
  obtain ⟨rfl, hZ, hh⟩ := hP
  have hx := Bd.exec
  have hby := Bd.bytes
  have hml : c.maxLocals = 1 := hml0
  have hown : s.vm.findClass "com/example/vestry/vestry/model/Kind" = some m.cls := findClass_of_methodNamed Bd.named
  have X0 : Stand p l e ({ frames := 0, cells := 0, slots := 0, locals := 0 } : Room) s m #[(.ref w_TABLE)] below meth c s₁ [] 0 0 := Stand.of_body Bd
  have e0 : s₁.heap = h0 := by rw [← hh, Bd.state]; rfl
  have N0 := Fr.nil n0
  refine (?_ : own_Fin p e below _ _)
  refine own_st (fun t k => castTop (ef_2_R m w_TABLE) k) ?_
  show own_Fin p e below _ (s₁.setTop (mkF m 0 #[.val (.ref w_TABLE)] []))
  refine own_st (fun t k => XS.aloadN X0.here hx rfl (hb hby d2_0) rfl rfl k) ?_
  show own_Fin p e below _ (s₁.setTop (mkF m 1 #[.val (.ref w_TABLE)] [(.ref w_TABLE)]))
  obtain ⟨T1, X1, e1, st1⟩ := getS2 X0 hx hZ hown (host := "") (Or.inl (hw _ (List.mem_of_getElem? (i := 13) rfl))) Via.refl e0 S_MONEY (g := (mkF m 1 #[.val (.ref w_TABLE)] [(.ref w_TABLE)])) rfl (hb hby d2_1)
  refine own_st st1 ?_
  show own_Fin p e below _ (T1.setTop (mkF m 4 #[.val (.ref w_TABLE)] [(.ref w_MONEY), (.ref w_TABLE)]))
  refine own_st (fun t k => Jvm.RoadKit.acmp (g := (mkF m 4 #[.val (.ref w_TABLE)] [(.ref w_MONEY), (.ref w_TABLE)])) X1 hx rfl rfl rfl (pc0 := 4) (pc' := 7) (same := false) rfl (hb hby d2_4) rfl (decide_eq_false fun q => (Fld.ne F_TABLE_ordinal F_MONEY_ordinal (by simp)) (Value.ref.inj q)) (by decide) (by decide) k) ?_
  show own_Fin p e below _ (T1.setTop (mkF m 7 #[.val (.ref w_TABLE)] []))
  refine own_st (fun t k => XS.aloadN X1.here hx rfl (hb hby d2_7) rfl rfl k) ?_
  show own_Fin p e below _ (T1.setTop (mkF m 8 #[.val (.ref w_TABLE)] [(.ref w_TABLE)]))
  obtain ⟨T2, X2, e2, st2⟩ := getS2 X1 hx hZ hown (host := "") (Or.inl (hw _ (List.mem_of_getElem? (i := 16) rfl))) Via.refl e1 S_YEARS (g := (mkF m 8 #[.val (.ref w_TABLE)] [(.ref w_TABLE)])) rfl (hb hby d2_8)
  refine own_st st2 ?_
  show own_Fin p e below _ (T2.setTop (mkF m 11 #[.val (.ref w_TABLE)] [(.ref w_YEARS), (.ref w_TABLE)]))
  refine own_st (fun t k => Jvm.RoadKit.acmp (g := (mkF m 11 #[.val (.ref w_TABLE)] [(.ref w_YEARS), (.ref w_TABLE)])) X2 hx rfl rfl rfl (pc0 := 11) (pc' := 14) (same := false) rfl (hb hby d2_11) rfl (decide_eq_false fun q => (Fld.ne F_TABLE_ordinal F_YEARS_ordinal (by simp)) (Value.ref.inj q)) (by decide) (by decide) k) ?_
  show own_Fin p e below _ (T2.setTop (mkF m 14 #[.val (.ref w_TABLE)] []))
  refine own_st (fun t k => XS.aloadN X2.here hx rfl (hb hby d2_14) rfl rfl k) ?_
  show own_Fin p e below _ (T2.setTop (mkF m 15 #[.val (.ref w_TABLE)] [(.ref w_TABLE)]))
  obtain ⟨T3, X3, e3, st3⟩ := getS2 X2 hx hZ hown (host := "") (Or.inl (hw _ (List.mem_of_getElem? (i := 18) rfl))) Via.refl e2 S_RATE (g := (mkF m 15 #[.val (.ref w_TABLE)] [(.ref w_TABLE)])) rfl (hb hby d2_15)
  refine own_st st3 ?_
  show own_Fin p e below _ (T3.setTop (mkF m 18 #[.val (.ref w_TABLE)] [(.ref w_RATE), (.ref w_TABLE)]))
  refine own_st (fun t k => Jvm.RoadKit.acmp (g := (mkF m 18 #[.val (.ref w_TABLE)] [(.ref w_RATE), (.ref w_TABLE)])) X3 hx rfl rfl rfl (pc0 := 18) (pc' := 21) (same := false) rfl (hb hby d2_18) rfl (decide_eq_false fun q => (Fld.ne F_TABLE_ordinal F_RATE_ordinal (by simp)) (Value.ref.inj q)) (by decide) (by decide) k) ?_
  show own_Fin p e below _ (T3.setTop (mkF m 21 #[.val (.ref w_TABLE)] []))
  refine own_st (fun t k => XS.aloadN X3.here hx rfl (hb hby d2_21) rfl rfl k) ?_
  show own_Fin p e below _ (T3.setTop (mkF m 22 #[.val (.ref w_TABLE)] [(.ref w_TABLE)]))
  obtain ⟨T4, X4, e4, st4⟩ := getS2 X3 hx hZ hown (host := "") (Or.inl (hw _ (List.mem_of_getElem? (i := 20) rfl))) Via.refl e3 S_COUNT (g := (mkF m 22 #[.val (.ref w_TABLE)] [(.ref w_TABLE)])) rfl (hb hby d2_22)
  refine own_st st4 ?_
  show own_Fin p e below _ (T4.setTop (mkF m 25 #[.val (.ref w_TABLE)] [(.ref w_COUNT), (.ref w_TABLE)]))
  refine own_st (fun t k => Jvm.RoadKit.acmp (g := (mkF m 25 #[.val (.ref w_TABLE)] [(.ref w_COUNT), (.ref w_TABLE)])) X4 hx rfl rfl rfl (pc0 := 25) (pc' := 32) (same := false) rfl (hb hby d2_25) rfl (decide_eq_false fun q => (Fld.ne F_TABLE_ordinal F_COUNT_ordinal (by simp)) (Value.ref.inj q)) (by decide) (by decide) k) ?_
  show own_Fin p e below _ (T4.setTop (mkF m 32 #[.val (.ref w_TABLE)] []))
  refine own_st (fun t k => XS.iconst X4.here hx rfl (hb hby d2_32) k) ?_
  show own_Fin p e below _ (T4.setTop (mkF m 33 #[.val (.ref w_TABLE)] [(.int (0 : Int32))]))
  obtain ⟨fs, hr, hrun, hended, hW, hsame⟩ := X4.leave (v := some (.int (0 : Int32))) (fun h => by rw [Bd.returns] at h; cases h)
  exact ⟨_, _, retN X4 hx (t := .boolean) Bd.returns (by simp) (hb hby d2_33) hr, hrun, hended, _, _, rfl, ⟨rfl, N0, e4⟩, ⟨_, rfl⟩, hW, hsame.mono (by decide) (by decide)⟩
set_option maxRecDepth 65536 in
set_option maxHeartbeats 40000000 in
theorem rm0_c8 (l : Launch) (Z : State) (a0 : Array Value) (hw : ∀ d ∈ tables_1, d.before a0 Z = true) (ws : List Jvm.Cond) (w_MONEY w_COUNT w_YEARS w_RATE w_FLAG w_DATE w_TABLE w_CHOICE w_MONTH : Addr) (p0 : Int32) (h0 : Heap) (n0 : Nat) (PN : own_Pins Z h0 w_MONEY w_COUNT w_YEARS w_RATE w_FLAG w_DATE w_TABLE w_CHOICE w_MONTH) (q0 : ((p0 &&& (2147483647 : Int32)) % (9 : Int32)) = (8 : Int32)) :
    MetFree l x (head1 (Jvm.Cond.code x code maxLocals ret :: ws) room_1) (fun a U => a = #[(.int p0)] ∧ Z.Warmed39 U.vm ∧ U.heap = h0) (fun _ _ _ _ _ => True) (fun _ U o U' => ∃ v L, o = .returned v ∧ own_Q h0 n0 (some (.int (1 : Int32))) v U'.heap L ∧ FrameEnd U o U' L room_1.cells room_1.slots) := by
  obtain ⟨S_MONEY, E_MONEY, S_COUNT, E_COUNT, S_YEARS, E_YEARS, S_RATE, E_RATE, S_FLAG, E_FLAG, S_DATE, E_DATE, S_TABLE, E_TABLE, S_CHOICE, E_CHOICE, S_MONTH, E_MONTH, F_COUNT_ordinal, F_MONEY_ordinal, F_YEARS_ordinal, F_RATE_ordinal, F_FLAG_ordinal, F_DATE_ordinal, F_TABLE_ordinal, F_CHOICE_ordinal, F_MONTH_ordinal⟩ := PN
  refine MetFree.of_bodySF (plainFor_of_name pn_com_example_vestry_vestry_model_KindIsNumberPinLaw) hisR ?_
  intro p e s m args below meth c s₁ Bd hml0 hP hK
  obtain ⟨rfl, hZ, hh⟩ := hP
  have hx := Bd.exec
  have hby := Bd.bytes
  have hml : c.maxLocals = 4 := hml0
  have hown : s.vm.findClass "com/example/vestry/vestry/model/KindIsNumberPinLaw" = some m.cls := findClass_of_methodNamed Bd.named
  have X0 : Stand p l e room_1 s m #[(.int p0)] below meth c s₁ [] 0 0 := Stand.of_body Bd
  have e0 : s₁.heap = h0 := by rw [← hh, Bd.state]; rfl
  have N0 := Fr.nil n0
  refine (?_ : own_Fin p e below _ _)
  refine own_st (fun t k => castTop (ef_0_I m p0) k) ?_
  show own_Fin p e below _ (s₁.setTop (mkF m 0 #[.val (.int p0), .unset, .unset, .unset] []))
  refine own_st (fun t k => XS.iloadN X0.here hx rfl (hb hby at_0) rfl k) ?_
  show own_Fin p e below _ (s₁.setTop (mkF m 1 #[.val (.int p0), .unset, .unset, .unset] [(.int p0)]))
  refine own_st (fun t k => X0.ldcI hx hown (mvT hZ (hw _ (List.mem_of_getElem? (i := 0) rfl))) rfl (hb hby at_1) k) ?_
  show own_Fin p e below _ (s₁.setTop (mkF m 3 #[.val (.int p0), .unset, .unset, .unset] [(.int (2147483647 : Int32)), (.int p0)]))
  refine own_st (fun t k => XS.iand X0.here hx rfl (hb hby at_3) rfl k) ?_
  show own_Fin p e below _ (s₁.setTop (mkF m 4 #[.val (.int p0), .unset, .unset, .unset] [(.int (p0 &&& (2147483647 : Int32)))]))
  refine own_st (fun t k => XS.bipush X0.here hx rfl (hb hby at_4) k) ?_
  show own_Fin p e below _ (s₁.setTop (mkF m 6 #[.val (.int p0), .unset, .unset, .unset] [(.int (9 : Int32)), (.int (p0 &&& (2147483647 : Int32)))]))
  refine own_st (fun t k => iremM X0 hx rfl (hb hby at_6) rfl (by decide) k) ?_
  show own_Fin p e below _ (s₁.setTop (mkF m 7 #[.val (.int p0), .unset, .unset, .unset] [(.int ((p0 &&& (2147483647 : Int32)) % (9 : Int32)))]))
  rw [q0]
  show own_Fin p e below _ (s₁.setTop (mkF m 7 #[.val (.int p0), .unset, .unset, .unset] [(.int (8 : Int32))]))
  refine own_st (fun t k => XS.istoreN X0.here hx rfl (hb hby at_7) rfl (l' := #[.val (.int p0), .val (.int (8 : Int32)), .unset, .unset]) rfl k) ?_
  show own_Fin p e below _ (s₁.setTop (mkF m 8 #[.val (.int p0), .val (.int (8 : Int32)), .unset, .unset] []))
  refine own_st (fun t k => XS.iloadN X0.here hx rfl (hb hby at_8) rfl k) ?_
  show own_Fin p e below _ (s₁.setTop (mkF m 9 #[.val (.int p0), .val (.int (8 : Int32)), .unset, .unset] [(.int (8 : Int32))]))
  obtain ⟨_, _, ⟨T1, L1, k1, n1⟩, -, X1, ⟨Lc1, hQ1, l1, y1, z1⟩, st1⟩ := Jvm.LawKit.callS X0 hx (y := (⟨"com/example/vestry/vestry/model/KindIsNumberPinLaw", "pick", "(I)Lcom/example/vestry/vestry/model/Kind;"⟩ : MethodName)) hown (mvT hZ (hw _ (List.mem_of_getElem? (i := 1) rfl))) (mvT hZ (hw _ (List.mem_of_getElem? (i := 2) rfl))) (mvT hZ (hw _ (List.mem_of_getElem? (i := 3) rfl))) (mvT hZ (hw _ (List.mem_of_getElem? (i := 4) rfl))) (by decide) (backOf (W := 0) (rm1_8 l Z a0 hw [] w_MONEY w_COUNT w_YEARS w_RATE w_FLAG w_DATE w_TABLE w_CHOICE w_MONTH h0 n0 (by exact ⟨S_MONEY, E_MONEY, S_COUNT, E_COUNT, S_YEARS, E_YEARS, S_RATE, E_RATE, S_FLAG, E_FLAG, S_DATE, E_DATE, S_TABLE, E_TABLE, S_CHOICE, E_CHOICE, S_MONTH, E_MONTH, F_COUNT_ordinal, F_MONEY_ordinal, F_YEARS_ordinal, F_RATE_ordinal, F_FLAG_ordinal, F_DATE_ordinal, F_TABLE_ordinal, F_CHOICE_ordinal, F_MONTH_ordinal⟩)) hZ (hw _ (List.mem_of_getElem? (i := 4) rfl)) (hw _ (List.mem_of_getElem? (i := 3) rfl)) (by decide) (by decide)) (g := (mkF m 9 #[.val (.int p0), .val (.int (8 : Int32)), .unset, .unset] [(.int (8 : Int32))])) rfl (by rw [hml]; rfl) (argsL := [(.int (8 : Int32))]) (rest := []) (lenOf pd__I_Lcom_example_vestry_vestry_model_Kind_ rfl) rfl (by show 2 * 0 + _ ≤ _; exact Nat.le_of_eq rfl) (hb hby at_9) (fun _ _ => ⟨rfl, e0, (by decide : 0 + 0 ≤ _), (by decide : 0 + 0 ≤ _)⟩)
  dsimp only [Pt.U, Pt.locs, Pt.cells, Pt.slots] at X1 l1 y1 z1 st1 hQ1
  subst l1 y1 z1
  obtain ⟨rfl, N1q, e1⟩ := hQ1
  have N1 := Fr.app N0 N1q
  refine own_st st1 ?_
  show own_Fin p e below _ (T1.setTop (mkF m 12 #[.val (.int p0), .val (.int (8 : Int32)), .unset, .unset] [(.ref w_TABLE)]))
  refine own_st (fun t k => XS.astoreN X1.here hx rfl (hb hby at_12) rfl rfl (l' := #[.val (.int p0), .val (.int (8 : Int32)), .val (.ref w_TABLE), .unset]) rfl k) ?_
  show own_Fin p e below _ (T1.setTop (mkF m 13 #[.val (.int p0), .val (.int (8 : Int32)), .val (.ref w_TABLE), .unset] []))
  refine own_st (fun t k => XS.iloadN X1.here hx rfl (hb hby at_13) rfl k) ?_
  show own_Fin p e below _ (T1.setTop (mkF m 14 #[.val (.int p0), .val (.int (8 : Int32)), .val (.ref w_TABLE), .unset] [(.int (8 : Int32))]))
  refine own_st (fun t k => XS.iconst X1.here hx rfl (hb hby at_14) k) ?_
  show own_Fin p e below _ (T1.setTop (mkF m 15 #[.val (.int p0), .val (.int (8 : Int32)), .val (.ref w_TABLE), .unset] [(.int (4 : Int32)), (.int (8 : Int32))]))
  refine own_st (fun t k => XS.icmpYes X1.here hx rfl (pc0 := 15) (pc' := 22) rfl (hb hby at_15) rfl (by decide) (by decide) (by decide) k) ?_
  show own_Fin p e below _ (T1.setTop (mkF m 22 #[.val (.int p0), .val (.int (8 : Int32)), .val (.ref w_TABLE), .unset] []))
  refine own_st (fun t k => XS.iconst X1.here hx rfl (hb hby at_22) k) ?_
  show own_Fin p e below _ (T1.setTop (mkF m 23 #[.val (.int p0), .val (.int (8 : Int32)), .val (.ref w_TABLE), .unset] [(.int (0 : Int32))]))
  refine own_st (fun t k => XS.istoreN X1.here hx rfl (hb hby at_23) rfl (l' := #[.val (.int p0), .val (.int (8 : Int32)), .val (.ref w_TABLE), .val (.int (0 : Int32))]) rfl k) ?_
  show own_Fin p e below _ (T1.setTop (mkF m 24 #[.val (.int p0), .val (.int (8 : Int32)), .val (.ref w_TABLE), .val (.int (0 : Int32))] []))
  refine own_st (fun t k => XS.aloadN X1.here hx rfl (hb hby at_24) rfl rfl k) ?_
  show own_Fin p e below _ (T1.setTop (mkF m 25 #[.val (.int p0), .val (.int (8 : Int32)), .val (.ref w_TABLE), .val (.int (0 : Int32))] [(.ref w_TABLE)]))
  obtain ⟨cq2, kq2, q2a, q2b, q2c⟩ := isOf hZ e1 E_TABLE
  obtain ⟨_, _, ⟨T2, L2, k2, n2⟩, -, X2, ⟨Lc2, hQ2, l2, y2, z2⟩, st2⟩ := X1.virtualBack hx (y := (⟨"com/example/vestry/vestry/model/Kind", "isNumber", "()Z"⟩ : MethodName)) (z := (⟨"com/example/vestry/vestry/model/Kind", "isNumber", "()Z"⟩ : MethodName)) hown (mvT hZ (hw _ (List.mem_of_getElem? (i := 8) rfl))) (mvT hZ (hw _ (List.mem_of_getElem? (i := 9) rfl))) (notFace_of_selects (args := #[]) (mvT hZ (hw _ (List.mem_of_getElem? (i := 11) rfl)))) (mvT hZ (hw _ (List.mem_of_getElem? (i := 11) rfl))) (mvT hZ (hw _ (List.mem_of_getElem? (i := 10) rfl))) (by decide) (backOf (W := 0) (rm2_w_TABLE l Z a0 hw [] w_MONEY w_COUNT w_YEARS w_RATE w_FLAG w_DATE w_TABLE w_CHOICE w_MONTH h0 n0 (by exact ⟨S_MONEY, E_MONEY, S_COUNT, E_COUNT, S_YEARS, E_YEARS, S_RATE, E_RATE, S_FLAG, E_FLAG, S_DATE, E_DATE, S_TABLE, E_TABLE, S_CHOICE, E_CHOICE, S_MONTH, E_MONTH, F_COUNT_ordinal, F_MONEY_ordinal, F_YEARS_ordinal, F_RATE_ordinal, F_FLAG_ordinal, F_DATE_ordinal, F_TABLE_ordinal, F_CHOICE_ordinal, F_MONTH_ordinal⟩)) hZ (hw _ (List.mem_of_getElem? (i := 12) rfl)) (hw _ (List.mem_of_getElem? (i := 6) rfl)) (by decide) (by decide)) q2a q2c (g := (mkF m 25 #[.val (.int p0), .val (.int (8 : Int32)), .val (.ref w_TABLE), .val (.int (0 : Int32))] [(.ref w_TABLE)])) rfl (by rw [hml]; rfl) (Steps.refl _) (argsL := []) (rest := []) (lenOf pd___Z rfl) rfl (by show 2 * 0 + _ ≤ _; exact Nat.le_of_eq rfl) (hb hby at_25) (fun _ _ => ⟨rfl, e1, (by decide : 0 + 0 ≤ _), (by decide : 0 + 0 ≤ _)⟩)
  dsimp only [Pt.U, Pt.locs, Pt.cells, Pt.slots] at X2 l2 y2 z2 st2 hQ2
  subst l2 y2 z2
  obtain ⟨rfl, N2q, e2⟩ := hQ2
  have N2 := Fr.app N1 N2q
  refine own_tr st2 ?_
  show own_Fin p e below _ (T2.setTop (mkF m 28 #[.val (.int p0), .val (.int (8 : Int32)), .val (.ref w_TABLE), .val (.int (0 : Int32))] [(.int (0 : Int32))]))
  refine own_st (fun t k => XS.iloadN X2.here hx rfl (hb hby at_28) rfl k) ?_
  show own_Fin p e below _ (T2.setTop (mkF m 29 #[.val (.int p0), .val (.int (8 : Int32)), .val (.ref w_TABLE), .val (.int (0 : Int32))] [(.int (0 : Int32)), (.int (0 : Int32))]))
  refine own_st (fun t k => XS.icmpNo X2.here hx rfl (hb hby at_29) rfl (by decide) k) ?_
  show own_Fin p e below _ (T2.setTop (mkF m 32 #[.val (.int p0), .val (.int (8 : Int32)), .val (.ref w_TABLE), .val (.int (0 : Int32))] []))
  refine own_st (fun t k => XS.iconst X2.here hx rfl (hb hby at_32) k) ?_
  show own_Fin p e below _ (T2.setTop (mkF m 33 #[.val (.int p0), .val (.int (8 : Int32)), .val (.ref w_TABLE), .val (.int (0 : Int32))] [(.int (1 : Int32))]))
  refine own_st (fun t k => XS.goto X2.here hx rfl (pc0 := 33) (pc' := 37) rfl (hb hby at_33) (by decide) (by decide) k) ?_
  show own_Fin p e below _ (T2.setTop (mkF m 37 #[.val (.int p0), .val (.int (8 : Int32)), .val (.ref w_TABLE), .val (.int (0 : Int32))] [(.int (1 : Int32))]))
  obtain ⟨fs, hr, hrun, hended, hW, hsame⟩ := X2.leave (v := some (.int (1 : Int32))) (fun h => by rw [Bd.returns] at h; cases h)
  exact ⟨_, _, retN X2 hx (t := .boolean) Bd.returns (by simp) (hb hby at_37) hr, hrun, hended, _, _, rfl, ⟨rfl, N2, e2⟩, ⟨_, rfl⟩, hW, hsame.mono (by decide) (by decide)⟩
theorem rm0 (l : Launch) (Z : State) (a0 : Array Value) (hw : ∀ d ∈ tables_1, d.before a0 Z = true) (ws : List Jvm.Cond) (w_MONEY w_COUNT w_YEARS w_RATE w_FLAG w_DATE w_TABLE w_CHOICE w_MONTH : Addr) (p0 : Int32) (h0 : Heap) (n0 : Nat) (PN : own_Pins Z h0 w_MONEY w_COUNT w_YEARS w_RATE w_FLAG w_DATE w_TABLE w_CHOICE w_MONTH) :
    MetFree l x (head1 (Jvm.Cond.code x code maxLocals ret :: ws) room_1) (fun a U => a = #[(.int p0)] ∧ Z.Warmed39 U.vm ∧ U.heap = h0) (fun _ _ _ _ _ => True) (fun _ U o U' => ∃ v L, o = .returned v ∧ own_Q h0 n0 (some (.int (1 : Int32))) v U'.heap L ∧ FrameEnd U o U' L room_1.cells room_1.slots) := by
  rcases own_mod9 p0 with q0 | q0 | q0 | q0 | q0 | q0 | q0 | q0 | q0
  ·
    exact rm0_c0 l Z a0 hw ws w_MONEY w_COUNT w_YEARS w_RATE w_FLAG w_DATE w_TABLE w_CHOICE w_MONTH p0 h0 n0 PN q0
  ·
    exact rm0_c1 l Z a0 hw ws w_MONEY w_COUNT w_YEARS w_RATE w_FLAG w_DATE w_TABLE w_CHOICE w_MONTH p0 h0 n0 PN q0
  ·
    exact rm0_c2 l Z a0 hw ws w_MONEY w_COUNT w_YEARS w_RATE w_FLAG w_DATE w_TABLE w_CHOICE w_MONTH p0 h0 n0 PN q0
  ·
    exact rm0_c3 l Z a0 hw ws w_MONEY w_COUNT w_YEARS w_RATE w_FLAG w_DATE w_TABLE w_CHOICE w_MONTH p0 h0 n0 PN q0
  ·
    exact rm0_c4 l Z a0 hw ws w_MONEY w_COUNT w_YEARS w_RATE w_FLAG w_DATE w_TABLE w_CHOICE w_MONTH p0 h0 n0 PN q0
  ·
    exact rm0_c5 l Z a0 hw ws w_MONEY w_COUNT w_YEARS w_RATE w_FLAG w_DATE w_TABLE w_CHOICE w_MONTH p0 h0 n0 PN q0
  ·
    exact rm0_c6 l Z a0 hw ws w_MONEY w_COUNT w_YEARS w_RATE w_FLAG w_DATE w_TABLE w_CHOICE w_MONTH p0 h0 n0 PN q0
  ·
    exact rm0_c7 l Z a0 hw ws w_MONEY w_COUNT w_YEARS w_RATE w_FLAG w_DATE w_TABLE w_CHOICE w_MONTH p0 h0 n0 PN q0
  ·
    exact rm0_c8 l Z a0 hw ws w_MONEY w_COUNT w_YEARS w_RATE w_FLAG w_DATE w_TABLE w_CHOICE w_MONTH p0 h0 n0 PN q0
set_option maxRecDepth 65536 in
set_option maxHeartbeats 40000000 in
theorem comes_1 {Post : Tables → Env → Array Value → State → Outcome → State → Prop} (hpost : ∀ tb e args s v u, (limb_1_1.after args s (.returned v) u = true ∧ limb_1_2.after args s (.returned v) u = true ∧ True) → FrameEnd s (.returned v) u (Jvm.fieldLocs frame_1_writes args s ++ Jvm.arrayLocs frame_1_arrays args s ++ Jvm.staticLocs frame_1_statics s) 0 0 → Post tb e args s (.returned v) u) :
    ArmFor flags0 classFile x code maxLocals ret World_1 tables_1 room_1 Calls_1 rest_1 Pre_1 Post := by
  intro l hfl _ _ p e ha hc hk s m args below hf hA hF happ hP
  obtain ⟨hcalls, hrest, hpre⟩ := hP
  obtain ⟨-, -, -, hnamed, -, -, -, hat⟩ := (Spec.applies_iff hf).mp happ
  obtain ⟨hg, hn⟩ := and_e (Cond.before_iff.mp (show (Jvm.Cond.and given_1 narrow_1).before args s = true from hpre))
  obtain ⟨hgl, hgr⟩ := and_e hg
  obtain ⟨v0, rfl⟩ : ∃ v0 : Value, args = #[v0] := by
    have hs : args.size = 1 := by simpa [Cond.value, given_1] using hgl
    obtain ⟨L⟩ := args
    match L, hs with
    | [v0], _ => exact ⟨v0, rfl⟩
  have hw := fun d (hd : d ∈ tables_1) => atoms_spec (ws := Jvm.Cond.code x code maxLocals ret :: tables_1) hat d (List.mem_cons_of_mem _ hd)
  have hfit : Fit s := fun {y c} hc i hi => by
    obtain ⟨ha, rfl⟩ := Array.getElem?_eq_some_iff.mp hc
    have q := List.all_eq_true.mp ((Array.all_eq_true_iff_forall_mem.mp hF) _ (Array.getElem_mem ha)) i (List.mem_range.mpr hi)
    simpa [Array.getElem?_eq_getElem hi] using q
  obtain ⟨p0, ei0⟩ := is_v hgr
  obtain rfl : v0 = (.int p0) := Option.some.inj ei0
  obtain ⟨hnl, hnr⟩ := and_e hn
  obtain ⟨hnrl, hnrr⟩ := and_e hnr
  obtain ⟨hnrrl, hnrrr⟩ := and_e hnrr
  obtain ⟨hnrrrl, hnrrrr⟩ := and_e hnrrr
  obtain ⟨hnrrrrl, hnrrrrr⟩ := and_e hnrrrr
  obtain ⟨hnrrrrrl, hnrrrrrr⟩ := and_e hnrrrrr
  obtain ⟨hnrrrrrrl, hnrrrrrrr⟩ := and_e hnrrrrrr
  obtain ⟨hnrrrrrrrl, hnrrrrrrrr⟩ := and_e hnrrrrrrr
  obtain ⟨hnrrrrrrrrl, hnrrrrrrrrr⟩ := and_e hnrrrrrrrr
  obtain ⟨hnrrrrrrrrrl, hnrrrrrrrrrr⟩ := and_e hnrrrrrrrrr
  obtain ⟨hnrrrrrrrrrrl, hnrrrrrrrrrrr⟩ := and_e hnrrrrrrrrrr
  obtain ⟨hnrrrrrrrrrrrl, hnrrrrrrrrrrrr⟩ := and_e hnrrrrrrrrrrr
  obtain ⟨hnrrrrrrrrrrrrl, hnrrrrrrrrrrrrr⟩ := and_e hnrrrrrrrrrrrr
  obtain ⟨hnrrrrrrrrrrrrrl, hnrrrrrrrrrrrrrr⟩ := and_e hnrrrrrrrrrrrrr
  obtain ⟨hnrrrrrrrrrrrrrrl, hnrrrrrrrrrrrrrrr⟩ := and_e hnrrrrrrrrrrrrrr
  obtain ⟨hnrrrrrrrrrrrrrrrl, hnrrrrrrrrrrrrrrrr⟩ := and_e hnrrrrrrrrrrrrrrr
  obtain ⟨hnrrrrrrrrrrrrrrrrl, hnrrrrrrrrrrrrrrrrr⟩ := and_e hnrrrrrrrrrrrrrrrr
  obtain ⟨w_MONEY, ev_MONEY⟩ := exa_v hnl
  have S_MONEY := Sta.start ev_MONEY (Or.inr ⟨(hw _ (List.mem_of_getElem? (i := 6) rfl)), (hw _ (List.mem_of_getElem? (i := 7) rfl))⟩)
  have E_MONEY := Exa.start ev_MONEY hnl
  obtain ⟨w_COUNT, ev_COUNT⟩ := exa_v hnrl
  have S_COUNT := Sta.start ev_COUNT (Or.inr ⟨(hw _ (List.mem_of_getElem? (i := 6) rfl)), (hw _ (List.mem_of_getElem? (i := 15) rfl))⟩)
  have E_COUNT := Exa.start ev_COUNT hnrl
  obtain ⟨w_YEARS, ev_YEARS⟩ := exa_v hnrrrrl
  have S_YEARS := Sta.start ev_YEARS (Or.inr ⟨(hw _ (List.mem_of_getElem? (i := 6) rfl)), (hw _ (List.mem_of_getElem? (i := 17) rfl))⟩)
  have E_YEARS := Exa.start ev_YEARS hnrrrrl
  obtain ⟨w_RATE, ev_RATE⟩ := exa_v hnrrrrrrl
  have S_RATE := Sta.start ev_RATE (Or.inr ⟨(hw _ (List.mem_of_getElem? (i := 6) rfl)), (hw _ (List.mem_of_getElem? (i := 19) rfl))⟩)
  have E_RATE := Exa.start ev_RATE hnrrrrrrl
  obtain ⟨w_FLAG, ev_FLAG⟩ := exa_v hnrrrrrrrrl
  have S_FLAG := Sta.start ev_FLAG (Or.inr ⟨(hw _ (List.mem_of_getElem? (i := 6) rfl)), (hw _ (List.mem_of_getElem? (i := 24) rfl))⟩)
  have E_FLAG := Exa.start ev_FLAG hnrrrrrrrrl
  obtain ⟨w_DATE, ev_DATE⟩ := exa_v hnrrrrrrrrrrl
  have S_DATE := Sta.start ev_DATE (Or.inr ⟨(hw _ (List.mem_of_getElem? (i := 6) rfl)), (hw _ (List.mem_of_getElem? (i := 26) rfl))⟩)
  have E_DATE := Exa.start ev_DATE hnrrrrrrrrrrl
  obtain ⟨w_TABLE, ev_TABLE⟩ := exa_v hnrrrrrrrrrrrrl
  have S_TABLE := Sta.start ev_TABLE (Or.inr ⟨(hw _ (List.mem_of_getElem? (i := 6) rfl)), (hw _ (List.mem_of_getElem? (i := 28) rfl))⟩)
  have E_TABLE := Exa.start ev_TABLE hnrrrrrrrrrrrrl
  obtain ⟨w_CHOICE, ev_CHOICE⟩ := exa_v hnrrrrrrrrrrrrrrl
  have S_CHOICE := Sta.start ev_CHOICE (Or.inr ⟨(hw _ (List.mem_of_getElem? (i := 6) rfl)), (hw _ (List.mem_of_getElem? (i := 30) rfl))⟩)
  have E_CHOICE := Exa.start ev_CHOICE hnrrrrrrrrrrrrrrl
  obtain ⟨w_MONTH, ev_MONTH⟩ := exa_v hnrrrrrrrrrrrrrrrrl
  have S_MONTH := Sta.start ev_MONTH (Or.inr ⟨(hw _ (List.mem_of_getElem? (i := 6) rfl)), (hw _ (List.mem_of_getElem? (i := 32) rfl))⟩)
  have E_MONTH := Exa.start ev_MONTH hnrrrrrrrrrrrrrrrrl
  have F_COUNT_ordinal := own_fld ev_COUNT hnrrl
  have F_MONEY_ordinal := own_fld ev_MONEY hnrrrl
  have F_YEARS_ordinal := own_fld ev_YEARS hnrrrrrl
  have F_RATE_ordinal := own_fld ev_RATE hnrrrrrrrl
  have F_FLAG_ordinal := own_fld ev_FLAG hnrrrrrrrrrl
  have F_DATE_ordinal := own_fld ev_DATE hnrrrrrrrrrrrl
  have F_TABLE_ordinal := own_fld ev_TABLE hnrrrrrrrrrrrrrl
  have F_CHOICE_ordinal := own_fld ev_CHOICE hnrrrrrrrrrrrrrrrl
  have F_MONTH_ordinal := own_fld ev_MONTH hnrrrrrrrrrrrrrrrrr
  obtain ⟨n, o, h1, h2, h3, _, L, rfl, ⟨rfl, N, -⟩, hq⟩ := rm0 l s _ hw tables_1 w_MONEY w_COUNT w_YEARS w_RATE w_FLAG w_DATE w_TABLE w_CHOICE w_MONTH p0 s.heap s.heap.size (by exact ⟨S_MONEY, E_MONEY, S_COUNT, E_COUNT, S_YEARS, E_YEARS, S_RATE, E_RATE, S_FLAG, E_FLAG, S_DATE, E_DATE, S_TABLE, E_TABLE, S_CHOICE, E_CHOICE, S_MONTH, E_MONTH, F_COUNT_ordinal, F_MONEY_ordinal, F_YEARS_ordinal, F_RATE_ordinal, F_FLAG_ordinal, F_DATE_ordinal, F_TABLE_ordinal, F_CHOICE_ordinal, F_MONTH_ordinal⟩) p e ha hc hk s m _ below hf ((Spec.applies_iff_loose hf).mp happ).1 ⟨rfl, State.Warmed39.refl s, rfl⟩ trivial
  refine ⟨n, _, h1, h2, h3, hpost _ _ _ _ _ _ ⟨Cond.after_iff.mpr rfl, Cond.after_iff.mpr (eq_i res_at (Term.int_eval (1)) rfl), trivial⟩ ⟨hq.1, hq.2.1, (hq.2.2.sift fun y hy => Or.inr (N y hy)).mono (by decide) (by decide)⟩⟩
theorem main_1_1 : Claimed_1_1 := comes_1 fun _ _ _ _ _ _ h hF => ⟨h.1, hF⟩
theorem main_1_2 : Claimed_1_2 := comes_1 fun _ _ _ _ _ _ h hF => ⟨h.2.1, hF⟩
end Jvm.Pilot.@@N@@
namespace Jvm.Pilot.@@N@@
open Jvm Jvm.ClassFile Sem Op Lib Jvm.Free Jvm.Stand Jvm.Pilot.@@N@@.Jvm.D
/-! MADE BY PROGRAM (witnessworld.py) out of the Statement's table words and the real class files: 12 classes; the members and pool entries that the words name. The judged class is class 1, her method 2. -/
namespace start1
open Jvm.ClassFile
def u (s : String) : CpInfo := .utf8 (stringToUtf16 s)
/-- a pool by its gaps: so many unusable entries, then the entry; so many at the end -/
def gap : Nat → List CpInfo → List CpInfo
  | 0, r => r
  | n + 1, r => .unusable :: gap n r
def poolList (es : List (Nat × CpInfo)) (last : Nat) : List CpInfo := es.foldr (fun e r => gap e.1 (e.2 :: r)) (gap last [])
def pool (es : List (Nat × CpInfo)) (last : Nat) : Array CpInfo := ⟨poolList es last⟩
def fileOf (pool : Array CpInfo) (this : Nat) (attrs : Array Attribute := #[]) (ms : Array MethodInfo := #[]) (fl : Nat := 33) (sup : Nat := 0) (ifs : Array Nat := #[]) (fds : Array FieldInfo := #[]) : ClassFile where
  minorVersion := 0
  majorVersion := 65
  constantPool := pool
  accessFlags := fl
  thisClass := this
  superClass := sup
  interfaces := ifs
  fields := fds
  methods := ms
  attributes := attrs
def plain (name : String) (sup : Option ClassId) : Class where
  name := name
  kind := .ordinary
  loader := none
  accessFlags := 33
  super := sup
  interfaces := #[]
  cf := none
  fields := #[]
  methods := #[]
  instanceTypes := #[]
  staticTypes := #[]
  resolved := #[]
  callSites := []
  init := .initialized
  statics := none
  mirror := none

def pool0 : Array CpInfo := pool [(5, u "<init>"), (0, u "()V"), (1, .class_ 10), (1, u "java/lang/Object")] 113

def k0m0 : Method := { name := "<init>", desc := "()V", sig := { parameters := [], returnType := none }, accessFlags := 1, code := none }
/-- java/lang/Object -/
def k0 : Class := { plain "java/lang/Object" none with
  accessFlags := 33
  interfaces := #[]
  cf := some (fileOf pool0 8 #[] #[{ accessFlags := 1, nameIndex := 5, descriptorIndex := 6, attributes := #[] }] 33 0 #[] #[])
  fields := #[]
  methods := #[k0m0]
  instanceTypes := #[]
  staticTypes := #[]
  resolved := Array.replicate 124 none
  statics := none }

def pool1 : Array CpInfo := pool [(2, .class_ 4), (1, u "java/lang/Object"), (0, u "<init>"), (0, u "()V"), (0, .fieldref 8 9), (0, .class_ 10), (0, .nameAndType 11 12), (0, u "com/example/vestry/vestry/model/Kind"), (0, u "MONEY"), (0, u "Lcom/example/vestry/vestry/model/Kind;"), (0, .fieldref 8 14), (0, .nameAndType 15 12), (0, u "YEARS"), (0, .fieldref 8 17), (0, .nameAndType 18 12), (0, u "RATE"), (0, .fieldref 8 20), (0, .nameAndType 21 12), (0, u "COUNT"), (0, .fieldref 8 23), (0, .nameAndType 24 12), (0, u "DATE"), (0, .fieldref 8 26), (0, .nameAndType 27 12), (0, u "MONTH"), (0, .fieldref 8 29), (0, .nameAndType 30 12), (0, u "CHOICE"), (0, .fieldref 8 32), (0, .nameAndType 33 12), (0, u "FLAG"), (0, .fieldref 8 35), (0, .nameAndType 36 12), (0, u "TABLE"), (0, .integer 2147483647), (0, .methodref 39 40), (0, .class_ 41), (0, .nameAndType 42 43), (0, u "com/example/vestry/vestry/model/KindIsNumberPinLaw"), (0, u "pick"), (0, u "(I)Lcom/example/vestry/vestry/model/Kind;"), (0, .methodref 8 45), (0, .nameAndType 46 47), (0, u "isNumber"), (0, u "()Z"), (3, u "law"), (0, u "(I)Z")] 2

def k1m0 : Method := { name := "<init>", desc := "()V", sig := { parameters := [], returnType := none }, accessFlags := 2, code := none }
def k1c1 : Code := { maxStack := 2, maxLocals := 1, code := method_2_code, exceptionTable := #[], attributes := #[] }
def k1m1 : Method := { name := "pick", desc := "(I)Lcom/example/vestry/vestry/model/Kind;", sig := { parameters := [.int], returnType := some (.object "com/example/vestry/vestry/model/Kind") }, accessFlags := 10, code := some k1c1 }
def k1c2 : Code := { maxStack := 2, maxLocals := 4, code := code, exceptionTable := #[], attributes := #[] }
def k1m2 : Method := { name := "law", desc := "(I)Z", sig := { parameters := [.int], returnType := some .boolean }, accessFlags := 9, code := some k1c2 }
/-- com/example/vestry/vestry/model/KindIsNumberPinLaw -/
def k1 : Class := { plain "com/example/vestry/vestry/model/KindIsNumberPinLaw" (some 0) with
  accessFlags := 49
  interfaces := #[]
  cf := some (fileOf pool1 39 #[] #[{ accessFlags := 2, nameIndex := 5, descriptorIndex := 6, attributes := #[] }, { accessFlags := 10, nameIndex := 42, descriptorIndex := 43, attributes := #[] }, { accessFlags := 9, nameIndex := 51, descriptorIndex := 52, attributes := #[] }] 49 2 #[] #[])
  fields := #[]
  methods := #[k1m0, k1m1, k1m2]
  instanceTypes := #[]
  staticTypes := #[]
  resolved := Array.replicate 55 none
  statics := none }

def pool2 : Array CpInfo := pool [(1, .class_ 2), (0, u "java/lang/constant/Constable"), (0, .class_ 4), (0, u "java/lang/Object")] 6

/-- java/lang/constant/Constable -/
def k2 : Class := { plain "java/lang/constant/Constable" (some 0) with
  accessFlags := 1537
  interfaces := #[]
  cf := some (fileOf pool2 1 #[] #[] 1537 3 #[] #[])
  fields := #[]
  methods := #[]
  instanceTypes := #[]
  staticTypes := #[]
  resolved := Array.replicate 11 none
  statics := none }

def pool3 : Array CpInfo := pool [(1, .class_ 2), (0, u "java/lang/Comparable"), (0, .class_ 4), (0, u "java/lang/Object")] 7

/-- java/lang/Comparable -/
def k3 : Class := { plain "java/lang/Comparable" (some 0) with
  accessFlags := 1537
  interfaces := #[]
  cf := some (fileOf pool3 1 #[] #[] 1537 3 #[] #[])
  fields := #[]
  methods := #[]
  instanceTypes := #[]
  staticTypes := #[]
  resolved := Array.replicate 12 none
  statics := none }

def pool4 : Array CpInfo := pool [(1, .class_ 2), (0, u "java/io/Serializable"), (0, .class_ 4), (0, u "java/lang/Object")] 2

/-- java/io/Serializable -/
def k4 : Class := { plain "java/io/Serializable" (some 0) with
  accessFlags := 1537
  interfaces := #[]
  cf := some (fileOf pool4 1 #[] #[] 1537 3 #[] #[])
  fields := #[]
  methods := #[]
  instanceTypes := #[]
  staticTypes := #[]
  resolved := Array.replicate 7 none
  statics := none }

def pool5 : Array CpInfo := pool [(2, .class_ 4), (1, u "java/lang/Enum"), (0, u "name"), (0, u "Ljava/lang/String;"), (2, u "ordinal"), (0, u "I"), (1, .class_ 14), (1, u "java/lang/Object"), (4, u "hash"), (86, .class_ 108), (1, u "java/lang/Enum$EnumDesc"), (2, .class_ 112), (0, u "java/lang/constant/Constable"), (0, .class_ 114), (0, u "java/lang/Comparable"), (0, .class_ 116), (0, u "java/io/Serializable")] 87

/-- java/lang/Enum -/
def k5 : Class := { plain "java/lang/Enum" (some 0) with
  accessFlags := 1057
  interfaces := #[2, 3, 4]
  cf := some (fileOf pool5 2 #[.nestMembers #[106]] #[] 1057 12 #[111, 113, 115] #[{ accessFlags := 18, nameIndex := 5, descriptorIndex := 6, attributes := #[] }, { accessFlags := 18, nameIndex := 9, descriptorIndex := 10, attributes := #[] }, { accessFlags := 2, nameIndex := 19, descriptorIndex := 10, attributes := #[] }])
  fields := #[{ name := "name", type := (.object "java/lang/String"), accessFlags := 18, slot := 0, constantValue := 0 }, { name := "ordinal", type := .int, accessFlags := 18, slot := 1, constantValue := 0 }, { name := "hash", type := .int, accessFlags := 2, slot := 2, constantValue := 0 }]
  methods := #[]
  instanceTypes := #[(.object "java/lang/String"), .int, .int]
  staticTypes := #[]
  resolved := Array.replicate 204 none
  statics := none }

def pool6 : Array CpInfo := pool [(1, .class_ 2), (0, u "com/example/vestry/vestry/model/Kind"), (0, .fieldref 1 4), (0, .nameAndType 5 6), (0, u "MONEY"), (0, u "Lcom/example/vestry/vestry/model/Kind;"), (0, .fieldref 1 8), (0, .nameAndType 9 6), (0, u "YEARS"), (0, .fieldref 1 11), (0, .nameAndType 12 6), (0, u "RATE"), (0, .fieldref 1 14), (0, .nameAndType 15 6), (0, u "COUNT"), (2, u "DATE"), (2, u "MONTH"), (2, u "CHOICE"), (2, u "FLAG"), (2, u "TABLE"), (2, u "$VALUES"), (0, u "[Lcom/example/vestry/vestry/model/Kind;"), (6, .class_ 43), (1, u "java/lang/Enum"), (8, u "WRITTEN"), (20, u "()Z"), (106, u "isNumber"), (75, u "DIGIT"), (0, u "C"), (2, u "ISO_DATE"), (0, u "Ljava/lang/String;"), (0, u "ISO_MONTH")] 29

def k6c0 : Code := { maxStack := 2, maxLocals := 1, code := prog_42_method_5_code, exceptionTable := #[], attributes := #[] }
def k6m0 : Method := { name := "isNumber", desc := "()Z", sig := { parameters := [], returnType := some .boolean }, accessFlags := 1, code := some k6c0 }
/-- com/example/vestry/vestry/model/Kind -/
def k6 : Class := { plain "com/example/vestry/vestry/model/Kind" (some 5) with
  accessFlags := 16433
  interfaces := #[]
  cf := some (fileOf pool6 1 #[] #[{ accessFlags := 1, nameIndex := 180, descriptorIndex := 73, attributes := #[] }] 16433 41 #[] #[{ accessFlags := 16409, nameIndex := 5, descriptorIndex := 6, attributes := #[] }, { accessFlags := 16409, nameIndex := 9, descriptorIndex := 6, attributes := #[] }, { accessFlags := 16409, nameIndex := 12, descriptorIndex := 6, attributes := #[] }, { accessFlags := 16409, nameIndex := 15, descriptorIndex := 6, attributes := #[] }, { accessFlags := 16409, nameIndex := 18, descriptorIndex := 6, attributes := #[] }, { accessFlags := 16409, nameIndex := 21, descriptorIndex := 6, attributes := #[] }, { accessFlags := 16409, nameIndex := 24, descriptorIndex := 6, attributes := #[] }, { accessFlags := 16409, nameIndex := 27, descriptorIndex := 6, attributes := #[] }, { accessFlags := 16409, nameIndex := 30, descriptorIndex := 6, attributes := #[] }, { accessFlags := 26, nameIndex := 52, descriptorIndex := 34, attributes := #[] }, { accessFlags := 26, nameIndex := 256, descriptorIndex := 257, attributes := #[] }, { accessFlags := 26, nameIndex := 260, descriptorIndex := 261, attributes := #[] }, { accessFlags := 26, nameIndex := 262, descriptorIndex := 261, attributes := #[] }, { accessFlags := 4122, nameIndex := 33, descriptorIndex := 34, attributes := #[] }])
  fields := #[{ name := "MONEY", type := (.object "com/example/vestry/vestry/model/Kind"), accessFlags := 16409, slot := 0, constantValue := 0 }, { name := "YEARS", type := (.object "com/example/vestry/vestry/model/Kind"), accessFlags := 16409, slot := 1, constantValue := 0 }, { name := "RATE", type := (.object "com/example/vestry/vestry/model/Kind"), accessFlags := 16409, slot := 2, constantValue := 0 }, { name := "COUNT", type := (.object "com/example/vestry/vestry/model/Kind"), accessFlags := 16409, slot := 3, constantValue := 0 }, { name := "DATE", type := (.object "com/example/vestry/vestry/model/Kind"), accessFlags := 16409, slot := 4, constantValue := 0 }, { name := "MONTH", type := (.object "com/example/vestry/vestry/model/Kind"), accessFlags := 16409, slot := 5, constantValue := 0 }, { name := "CHOICE", type := (.object "com/example/vestry/vestry/model/Kind"), accessFlags := 16409, slot := 6, constantValue := 0 }, { name := "FLAG", type := (.object "com/example/vestry/vestry/model/Kind"), accessFlags := 16409, slot := 7, constantValue := 0 }, { name := "TABLE", type := (.object "com/example/vestry/vestry/model/Kind"), accessFlags := 16409, slot := 8, constantValue := 0 }, { name := "WRITTEN", type := (.array (.object "com/example/vestry/vestry/model/Kind")), accessFlags := 26, slot := 9, constantValue := 0 }, { name := "DIGIT", type := .char, accessFlags := 26, slot := 10, constantValue := 0 }, { name := "ISO_DATE", type := (.object "java/lang/String"), accessFlags := 26, slot := 11, constantValue := 0 }, { name := "ISO_MONTH", type := (.object "java/lang/String"), accessFlags := 26, slot := 12, constantValue := 0 }, { name := "$VALUES", type := (.array (.object "com/example/vestry/vestry/model/Kind")), accessFlags := 4122, slot := 13, constantValue := 0 }]
  methods := #[k6m0]
  instanceTypes := #[(.object "java/lang/String"), .int, .int]
  staticTypes := #[(.object "com/example/vestry/vestry/model/Kind"), (.object "com/example/vestry/vestry/model/Kind"), (.object "com/example/vestry/vestry/model/Kind"), (.object "com/example/vestry/vestry/model/Kind"), (.object "com/example/vestry/vestry/model/Kind"), (.object "com/example/vestry/vestry/model/Kind"), (.object "com/example/vestry/vestry/model/Kind"), (.object "com/example/vestry/vestry/model/Kind"), (.object "com/example/vestry/vestry/model/Kind"), (.array (.object "com/example/vestry/vestry/model/Kind")), .char, (.object "java/lang/String"), (.object "java/lang/String"), (.array (.object "com/example/vestry/vestry/model/Kind"))]
  resolved := Array.replicate 292 none
  statics := some 0 }

def pool7 : Array CpInfo := pool [(1, u "java/lang/Cloneable"), (0, .class_ 1), (0, u "java/lang/Object"), (0, .class_ 3)] 3

/-- java/lang/Cloneable -/
def k7 : Class := { plain "java/lang/Cloneable" (some 0) with
  accessFlags := 1537
  interfaces := #[]
  cf := some (fileOf pool7 2 #[] #[] 1537 4 #[] #[])
  fields := #[]
  methods := #[]
  instanceTypes := #[]
  staticTypes := #[]
  resolved := Array.replicate 8 none
  statics := none }

/-- the primitive byte -/
def k8 : Class := { plain "byte" none with kind := .primitive 'B', accessFlags := 0x411 }
/-- [B -/
def k9 : Class := { plain "[B" (some 0) with kind := .array 8 .byte, interfaces := #[7, 4], accessFlags := 1041 }

/-- the primitive int -/
def k10 : Class := { plain "int" none with kind := .primitive 'I', accessFlags := 0x411 }
/-- [I -/
def k11 : Class := { plain "[I" (some 0) with kind := .array 10 .int, interfaces := #[7, 4], accessFlags := 1041 }

def heap : Heap := #[{ cls := 6, slots := #[.ref 1, .ref 3, .ref 4, .ref 2, .ref 6, .ref 9, .ref 8, .ref 5, .ref 7, .null, .int 0, .null, .null, .null], vm := .statics 6 },
  { cls := 6, slots := #[.null, .int 0, .int 0], vm := .none },
  { cls := 6, slots := #[.null, .int 3, .int 0], vm := .none },
  { cls := 6, slots := #[.null, .int 1, .int 0], vm := .none },
  { cls := 6, slots := #[.null, .int 2, .int 0], vm := .none },
  { cls := 6, slots := #[.null, .int 7, .int 0], vm := .none },
  { cls := 6, slots := #[.null, .int 4, .int 0], vm := .none },
  { cls := 6, slots := #[.null, .int 8, .int 0], vm := .none },
  { cls := 6, slots := #[.null, .int 6, .int 0], vm := .none },
  { cls := 6, slots := #[.null, .int 5, .int 0], vm := .none }]
def classes : Array Class := #[k0, k1, k2, k3, k4, k5, k6, k7, k8, k9, k10, k11]
def interned : List (Array UInt16 × Addr) := []
def slotsUsed : Nat := 41
def theMethod : MethodId := ⟨1, 2⟩
def args0 : Array Value := #[.int 5]
def aboutOver (below : List Frame) : State where
  vm := { classes := classes, interned := interned.toArray }
  heap := heap
  slotsUsed := slotsUsed
  threads := #[{ frames := .invoking theMethod args0 :: below }]
def below0 : List Frame := [.native { method := ⟨0, 0⟩, args := #[] }]
def about1 : State := aboutOver below0
def p0 : Program := .bare "" "" ""
def e0 : Env := launch0.env 0 0 0
theorem w_frames : about1.frames = Frame.invoking theMethod args0 :: below0 := rfl
set_option maxRecDepth 65536 in
theorem w_args : argsFit about1.vm theMethod args0 = true := by decide +kernel
set_option maxRecDepth 65536 in
theorem w_heap : heapFits about1 = true := by decide +kernel
set_option maxRecDepth 65536 in
theorem w_runnable : about1.curStatus? = some .runnable := by decide +kernel
set_option maxRecDepth 65536 in
theorem w_alone : about1.alone = true := by decide +kernel
set_option maxRecDepth 65536 in
theorem w_named : about1.methodNamed? x = some theMethod := by decide +kernel
set_option maxRecDepth 65536 in
theorem w_hears : about1.hears theMethod below0 = true := by decide +kernel
set_option maxRecDepth 65536 in
theorem w_ripe : about1.ripe theMethod args0 below0 = true := by decide +kernel
theorem w_running : about1.status = .running := rfl
set_option maxRecDepth 65536 in
theorem w_room : about1.hasRoom e0.platform room_1 = true :=
  launch0.hasRoom_least _ room_1 (by decide +kernel) (by decide +kernel) (by decide +kernel) (by decide +kernel) (by decide +kernel) (by decide +kernel)
theorem allAtoms_all (ts : List Jvm.Cond) (a : Array Jvm.Value) (st : Jvm.State) : (allAtoms ts).before a st = ts.all (fun c => c.before a st) := by
  induction ts with
  | nil => rfl
  | cons c t ih =>
    show (Jvm.Cond.and c (allAtoms t)).before a st = _
    rw [Jvm.Cond.before_and, ih, List.all_cons]
def words1 : List Jvm.Cond := Jvm.Cond.code x code maxLocals ret :: tables_1
/-- a 'code' word, met by the world's own term for the bytes: nothing is compared byte by byte -/
theorem code_word {y : MethodName} {bytes : ByteArray} {mx : Nat} {rt : Option FieldType} {a : Array Value} {s : State} {m : MethodId} {meth : Method} {c : Code} (h1 : s.methodNamed? y = some m) (h2 : s.vm.method? m = some meth) (h3 : meth.code = some c) (h4 : c.code = bytes)
    (h5 : (c.maxLocals == mx && c.exceptionTable.isEmpty && decide (c.maxStack ≤ mostOperands) && decide (meth.sig.returnType = rt) && !meth.locks && decide (parseMethodDescriptor y.desc = some meth.sig)) = true) : (Jvm.Cond.code y bytes mx rt).before a s = true := by
  simp only [Bool.and_eq_true, beq_iff_eq, Bool.not_eq_true', decide_eq_true_eq] at h5
  obtain ⟨⟨⟨⟨⟨g1, g2⟩, g3⟩, g4⟩, g5⟩, g6⟩ := h5
  simp [Cond.before, Cond.holds, Cond.value, h1, h2, h3, h4, g1, g2, g3, g4, g5, g6]
def isCode : Jvm.Cond → Bool
  | .code _ _ _ _ => true
  | _ => false
theorem all_split {L : List Jvm.Cond} {P : Jvm.Cond → Bool} (h1 : L.all (fun c => isCode c || P c) = true) (h2 : ∀ c ∈ L.filter isCode, P c = true) : L.all P = true := by
  refine List.all_eq_true.mpr fun c hc => ?_
  have h := List.all_eq_true.mp h1 c hc
  rcases Bool.eq_false_or_eq_true (isCode c) with hi | hi
  · exact h2 c (List.mem_filter.mpr ⟨hc, hi⟩)
  · simpa [hi] using h
set_option maxRecDepth 65536 in
theorem w_c0 : (Jvm.Cond.code x code maxLocals ret).before args0 about1 = true := code_word (m := ⟨1, 2⟩) (meth := k1m2) (c := k1c2) (by decide +kernel) rfl rfl rfl (by decide +kernel)
set_option maxRecDepth 65536 in
theorem w_c1 : (Jvm.Cond.code ({ cls := "com/example/vestry/vestry/model/KindIsNumberPinLaw", name := "pick", desc := "(I)Lcom/example/vestry/vestry/model/Kind;" } : Jvm.MethodName) method_2_code (1 : Nat) (Option.some (Jvm.ClassFile.FieldType.object "com/example/vestry/vestry/model/Kind"))).before args0 about1 = true := code_word (m := ⟨1, 1⟩) (meth := k1m1) (c := k1c1) (by decide +kernel) rfl rfl rfl (by decide +kernel)
set_option maxRecDepth 65536 in
theorem w_c2 : (Jvm.Cond.code ({ cls := "com/example/vestry/vestry/model/Kind", name := "isNumber", desc := "()Z" } : Jvm.MethodName) prog_42_method_5_code (1 : Nat) (Option.some Jvm.ClassFile.FieldType.boolean)).before args0 about1 = true := code_word (m := ⟨6, 0⟩) (meth := k6m0) (c := k6c0) (by decide +kernel) rfl rfl rfl (by decide +kernel)
def codes1 : List Jvm.Cond := [Jvm.Cond.code x code maxLocals ret, Jvm.Cond.code ({ cls := "com/example/vestry/vestry/model/KindIsNumberPinLaw", name := "pick", desc := "(I)Lcom/example/vestry/vestry/model/Kind;" } : Jvm.MethodName) method_2_code (1 : Nat) (Option.some (Jvm.ClassFile.FieldType.object "com/example/vestry/vestry/model/Kind")), Jvm.Cond.code ({ cls := "com/example/vestry/vestry/model/Kind", name := "isNumber", desc := "()Z" } : Jvm.MethodName) prog_42_method_5_code (1 : Nat) (Option.some Jvm.ClassFile.FieldType.boolean)]
set_option maxRecDepth 65536 in
theorem codes_eq : words1.filter isCode = codes1 := rfl
theorem w_codes : ∀ c ∈ words1.filter isCode, c.before args0 about1 = true := by
  rw [codes_eq]
  intro c hc
  simp only [codes1, List.mem_cons, List.not_mem_nil, or_false] at hc
  rcases hc with rfl | rfl | rfl
  · exact w_c0
  · exact w_c1
  · exact w_c2
set_option maxRecDepth 65536 in
theorem w_t1 : (words1.take 24).all (fun c => isCode c || c.before args0 about1) = true := by decide +kernel
set_option maxRecDepth 65536 in
theorem w_t2 : (words1.drop 24).all (fun c => isCode c || c.before args0 about1) = true := by decide +kernel
theorem w_tables : (allAtoms (Jvm.Cond.code x code maxLocals ret :: tables_1)).before args0 about1 = true := by
  rw [allAtoms_all]
  show words1.all (fun c => c.before args0 about1) = true
  refine all_split ?_ w_codes
  rw [← List.take_append_drop 24 words1, List.all_append, w_t1, w_t2]
  rfl
set_option maxRecDepth 65536 in
theorem w_case : (Jvm.Cond.and given_1 narrow_1).before args0 about1 = true := by decide +kernel
theorem w_applies : (headSpec (Jvm.Cond.code x code maxLocals ret :: tables_1) room_1).applies x e0.platform about1 = true :=
  (Spec.applies_iff w_frames).mpr ⟨w_running, w_runnable, w_alone, w_named, w_hears, w_ripe, w_room, w_tables⟩
theorem atStart : AtStart classFile x code maxLocals ret World_1 tables_1 room_1 Calls_1 rest_1 Pre_1 launch0 p0 e0 about1 theMethod args0 below0 :=
  ⟨lists_1, trivial, launch0.admits_env _ _ _, launch0.least_env, fairChoices_fair.cas, fairChoices_fair.clock, w_frames, w_args, w_heap, w_applies, trivial, trivial, w_case⟩
end start1
theorem witness_1 : WitnessClaimed_1 := ⟨start1.p0, start1.e0, start1.about1, start1.theMethod, start1.args0, start1.below0, start1.atStart⟩
end Jvm.Pilot.@@N@@

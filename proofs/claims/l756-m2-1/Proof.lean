import JvmDerived
import JvmDerived.Pilot.@@N@@Statement
import JvmDerived.Pilot.@@N@@Code
set_option linter.unusedVariables false
set_option linter.unusedSimpArgs false
namespace Jvm.RoadKit
open Sem ClassFile Op Lib Jvm.Stand Jvm.Free Jvm.LawKit
section New
variable {p : Program} {l : Launch} {e : Env} {R : Room} {s : State} {m : MethodId} {args : Array Value} {below : List Frame} {meth : Method} {c : Code} {T : State} {locs : List Loc} {cells slots : Nat}
theorem retI (X : Stand p l e R s m args below meth c T locs cells slots) (hx : p.tables.exec = Jvm.exec) {pc : Nat} {Ls : Array Slot} {z : Int32} {rest : List Value} (hret : meth.sig.returnType = some .int) (hd : decode c.code pc = .ok (.ireturn, 1)) {fs : List Frame}
    (hl : ∀ (f : JFrame) (acts : List Action), f.method = m → f.locked = none → f.entered = [] → (doReturn e (T.setTop f) acts (some (.int z))).1 = T.setFrames fs) : Steps p.tables e below (T.setTop (mkF m pc Ls (.int z :: rest))) (T.setFrames fs) :=
  retOut X hx (t := .int) hret rfl (Or.inl ⟨rfl, Or.inl rfl, z, rfl⟩) hd hl
end New
end Jvm.RoadKit
namespace Jvm.Pilot.@@N@@
open Jvm Jvm.ClassFile Sem Op Lib Jvm.Free Jvm.Stand Jvm.LawKit Jvm.RoadKit Bundle Jvm.Pilot.@@N@@.Jvm.D
/-- the run from A on ends, and K holds of its end -/
def own_Fin (p : Program) (e : Env) (below : List Frame) (K : Outcome → State → Prop) (A : State) : Prop := ∃ t o, Steps p.tables e below A t ∧ t.status = .running ∧ Ended t below o ∧ K o t
theorem own_st {p : Program} {e : Env} {below : List Frame} {K : Outcome → State → Prop} {A B : State} (st : ∀ t, Steps p.tables e below B t → Steps p.tables e below A t) (h : own_Fin p e below K B) : own_Fin p e below K A := by
  obtain ⟨t, o, h1, h2⟩ := h
  exact ⟨t, o, st t h1, h2⟩
theorem own_tr {p : Program} {e : Env} {below : List Frame} {K : Outcome → State → Prop} {A B : State} (st : Steps p.tables e below A B) (h : own_Fin p e below K B) : own_Fin p e below K A := by
  obtain ⟨t, o, h1, h2⟩ := h
  exact ⟨t, o, st.trans h1, h2⟩
/-- what a body leaves that writes nothing: it returns r, the heap as it was -/
def own_Q (h0 : Heap) (n0 : Nat) (r : Option Value) (v : Option Value) (h : Heap) (L : List Loc) : Prop := v = r ∧ Fr n0 L ∧ h = h0
theorem own_eqI {args : Array Value} {s : State} {t : Term} {k : Int32} (h : (Jvm.Cond.eq t (.int k)).value args s none s [] = some true) : t.eval args s none [] s = some (.int k) := by
  cases ht : t.eval args s none [] s with
  | none => simp [Cond.value, ht] at h
  | some x => cases x <;> simp [Cond.value, ht, Term.eval] at h ⊢; exact h
theorem own_fld {args : Array Value} {s : State} {t : Term} {a : Addr} {C n d : String} {k : Int32} (ht : t.eval args s none [] s = some (.ref a)) (h : (Jvm.Cond.eq (.field t C n d) (.int k)).value args s none s [] = some true) : Fld s s.heap a C n d (.int k) :=
  Fld.start (by rw [← fld_at ht]; exact own_eqI h)
theorem own_fldR {args : Array Value} {s : State} {t u : Term} {a b : Addr} {C n d : String} (ht : t.eval args s none [] s = some (.ref a)) (hu : u.eval args s none [] s = some (.ref b)) (h : (Jvm.Cond.eq (.field t C n d) u).value args s none s [] = some true) : Fld s s.heap a C n d (.ref b) := by
  refine Fld.start ?_
  rw [← fld_at ht]
  cases he : (Term.field t C n d).eval args s none [] s with
  | none => simp [Cond.value, he] at h
  | some x => cases x <;> simp [Cond.value, he, hu] at h ⊢; exact h
theorem own_differ {args : Array Value} {s : State} {t u : Term} {a b : Addr} (ht : t.eval args s none [] s = some (.ref a)) (hu : u.eval args s none [] s = some (.ref b)) (h : (Jvm.Cond.not (.eq t u)).value args s none s [] = some true) : a ≠ b := by
  have h1 := not_v h
  have h2 := gotF (eq_R ht hu rfl rfl) h1
  exact fun e => h2 (congrArg Value.ref e)
theorem own_pick {r : Int32} {k : Int} (h : r.toInt = k) : r = Int32.ofInt k := by rw [← h, Int32.ofInt_toInt]
def own_Pins (Z : State) (h0 : Heap) (w_FALSE w_TRUE w_BOOL w_FALSE_value w_TRUE_value : Addr) : Prop := (Sta Z h0 "com/example/loopwright/loopwright/solver/Term" "FALSE" "Lcom/example/loopwright/loopwright/solver/Term;" (.ref w_FALSE)) ∧ (Exa Z h0 w_FALSE "com/example/loopwright/loopwright/solver/Term$Constant") ∧ (Sta Z h0 "com/example/loopwright/loopwright/solver/Term" "TRUE" "Lcom/example/loopwright/loopwright/solver/Term;" (.ref w_TRUE)) ∧ (Exa Z h0 w_TRUE "com/example/loopwright/loopwright/solver/Term$Constant") ∧ (Sta Z h0 "com/example/loopwright/loopwright/solver/Sort" "BOOL" "Lcom/example/loopwright/loopwright/solver/Sort;" (.ref w_BOOL)) ∧ (Exa Z h0 w_BOOL "com/example/loopwright/loopwright/solver/Sort") ∧ (Fld Z h0 w_FALSE "com/example/loopwright/loopwright/solver/Term$Constant" "value" "Ljava/math/BigInteger;" (.ref w_FALSE_value)) ∧ (Exa Z h0 w_FALSE_value "java/math/BigInteger") ∧ (Fld Z h0 w_TRUE "com/example/loopwright/loopwright/solver/Term$Constant" "value" "Ljava/math/BigInteger;" (.ref w_TRUE_value)) ∧ (Exa Z h0 w_TRUE_value "java/math/BigInteger") ∧ (Fld Z h0 w_FALSE "com/example/loopwright/loopwright/solver/Term$Constant" "sort" "Lcom/example/loopwright/loopwright/solver/Sort;" (.ref w_BOOL)) ∧ (Fld Z h0 w_FALSE_value "java/math/BigInteger" "signum" "I" (.int 0)) ∧ (w_FALSE ≠ w_TRUE) ∧ (Fld Z h0 w_TRUE "com/example/loopwright/loopwright/solver/Term$Constant" "sort" "Lcom/example/loopwright/loopwright/solver/Sort;" (.ref w_BOOL)) ∧ (Fld Z h0 w_TRUE_value "java/math/BigInteger" "signum" "I" (.int 1))
theorem own_mask2 (p : Int32) : (p &&& (1 : Int32)) = (0 : Int32) ∨ (p &&& (1 : Int32)) = (1 : Int32) := by
  have h2 := c_mask p (1 : Int32) 1 (by decide) rfl
  generalize (p &&& (1 : Int32)) = r at h2 ⊢
  have h3 : r.toInt = p.toInt % 2 := h2
  rcases (by omega : r.toInt = 0 ∨ r.toInt = 1) with h | h
  · exact Or.inl (own_pick h)
  · exact Or.inr ((own_pick h))
theorem d1_0 : decode prog_96_method_6_code 0 = .ok (.iload_n 0, 1) := by decide +kernel
theorem d1_1 : decode prog_96_method_6_code 1 = .ok (.ifCond .eq 9, 3) := by decide +kernel
theorem d1_10 : decode prog_96_method_6_code 10 = .ok (.getstatic 32, 3) := by decide +kernel
theorem d1_13 : decode prog_96_method_6_code 13 = .ok (.areturn, 1) := by decide +kernel
theorem ef_1_I (m : MethodId) (x0 : Int32) : entryFrame m #[(.int x0)] 1 = mkF m 0 #[.val (.int x0)] [] := by first | (simp [entryFrame, mkF, argsToLocals, Value.category]; done) | rfl
theorem pn_com_example_loopwright_loopwright_solver_Term : plainName "com/example/loopwright/loopwright/solver/Term" = true := by first | (simp [plainName, overriddenIn]; done) | decide +kernel
set_option maxRecDepth 65536 in
set_option maxHeartbeats 40000000 in
theorem rm1_0 (l : Launch) (Z : State) (a0 : Array Value) (hw : ∀ d ∈ tables_1, d.before a0 Z = true) (ws : List Jvm.Cond) (w_FALSE w_TRUE w_BOOL w_FALSE_value w_TRUE_value : Addr) (h0 : Heap) (n0 : Nat) (PN : own_Pins Z h0 w_FALSE w_TRUE w_BOOL w_FALSE_value w_TRUE_value) :
    MetFree l (⟨"com/example/loopwright/loopwright/solver/Term", "bool", "(Z)Lcom/example/loopwright/loopwright/solver/Term;"⟩ : MethodName) (head1 (Jvm.Cond.code (⟨"com/example/loopwright/loopwright/solver/Term", "bool", "(Z)Lcom/example/loopwright/loopwright/solver/Term;"⟩ : MethodName) prog_96_method_6_code 1 (some (.object "com/example/loopwright/loopwright/solver/Term")) :: ws) ({ frames := 0, cells := 0, slots := 0, locals := 0 } : Room)) (fun a U => a = #[(.int (0 : Int32))] ∧ Z.Warmed39 U.vm ∧ U.heap = h0) (fun _ _ _ _ _ => True) (fun _ U o U' => ∃ v L, o = .returned v ∧ own_Q h0 n0 (some (.ref w_FALSE)) v U'.heap L ∧ FrameEnd U o U' L ({ frames := 0, cells := 0, slots := 0, locals := 0 } : Room).cells ({ frames := 0, cells := 0, slots := 0, locals := 0 } : Room).slots) := by
  obtain ⟨S_FALSE, E_FALSE, S_TRUE, E_TRUE, S_BOOL, E_BOOL, F_FALSE_value, E_FALSE_value, F_TRUE_value, E_TRUE_value, F_FALSE_sort, F_FALSE_value_signum, D_FALSE_TRUE, F_TRUE_sort, F_TRUE_value_signum⟩ := PN
  refine MetFree.of_bodySF (plainFor_of_name pn_com_example_loopwright_loopwright_solver_Term) hisR ?_
  intro p e s m args below meth c s₁ Bd hml0 hP hK
  obtain ⟨rfl, hZ, hh⟩ := hP
  have hx := Bd.exec
  have hby := Bd.bytes
  have hml : c.maxLocals = 1 := hml0
  have hown : s.vm.findClass "com/example/loopwright/loopwright/solver/Term" = some m.cls := findClass_of_methodNamed Bd.named
  have X0 : Stand p l e ({ frames := 0, cells := 0, slots := 0, locals := 0 } : Room) s m #[(.int (0 : Int32))] below meth c s₁ [] 0 0 := Stand.of_body Bd
  have e0 : s₁.heap = h0 := by rw [← hh, Bd.state]; rfl
  have N0 := Fr.nil n0
  refine (?_ : own_Fin p e below _ _)
  refine own_st (fun t k => castTop (ef_1_I m (0 : Int32)) k) ?_
  show own_Fin p e below _ (s₁.setTop (mkF m 0 #[.val (.int (0 : Int32))] []))
  refine own_st (fun t k => XS.iloadN X0.here hx rfl (hb hby d1_0) rfl k) ?_
  show own_Fin p e below _ (s₁.setTop (mkF m 1 #[.val (.int (0 : Int32))] [(.int (0 : Int32))]))
  refine own_st (fun t k => XS.ifYes X0.here hx rfl (pc0 := 1) (pc' := 10) rfl (hb hby d1_1) rfl (by decide) (by decide) (by decide) k) ?_
  show own_Fin p e below _ (s₁.setTop (mkF m 10 #[.val (.int (0 : Int32))] []))
  obtain ⟨T1, X1, e1, st1⟩ := getS2 X0 hx hZ hown (host := "") (Or.inl (hw _ (List.mem_of_getElem? (i := 8) rfl))) Via.refl e0 S_FALSE (g := (mkF m 10 #[.val (.int (0 : Int32))] [])) rfl (hb hby d1_10)
  refine own_st st1 ?_
  show own_Fin p e below _ (T1.setTop (mkF m 13 #[.val (.int (0 : Int32))] [(.ref w_FALSE)]))
  obtain ⟨fs, hr, hrun, hended, hW, hsame⟩ := X1.leave (v := some (.ref w_FALSE)) (fun h => by rw [Bd.returns] at h; cases h)
  exact ⟨_, _, retOut X1 hx (t := (.object "com/example/loopwright/loopwright/solver/Term")) Bd.returns rfl (Or.inr (Or.inr (Or.inr (Or.inr ⟨rfl, rfl, rfl⟩)))) (hb hby d1_13) hr, hrun, hended, _, _, rfl, ⟨rfl, N0, e1⟩, ⟨_, rfl⟩, hW, hsame.mono (by decide) (by decide)⟩
theorem pd__Z_Lcom_example_loopwright_loopwright_solver_Term_ : parseMethodDescriptor "(Z)Lcom/example/loopwright/loopwright/solver/Term;" = some ⟨[.boolean], some (.object "com/example/loopwright/loopwright/solver/Term")⟩ := by decide +kernel
theorem d1_4 : decode prog_96_method_6_code 4 = .ok (.getstatic 28, 3) := by decide +kernel
theorem d1_7 : decode prog_96_method_6_code 7 = .ok (.goto 6, 3) := by decide +kernel
set_option maxRecDepth 65536 in
set_option maxHeartbeats 40000000 in
theorem rm1_1 (l : Launch) (Z : State) (a0 : Array Value) (hw : ∀ d ∈ tables_1, d.before a0 Z = true) (ws : List Jvm.Cond) (w_FALSE w_TRUE w_BOOL w_FALSE_value w_TRUE_value : Addr) (h0 : Heap) (n0 : Nat) (PN : own_Pins Z h0 w_FALSE w_TRUE w_BOOL w_FALSE_value w_TRUE_value) :
    MetFree l (⟨"com/example/loopwright/loopwright/solver/Term", "bool", "(Z)Lcom/example/loopwright/loopwright/solver/Term;"⟩ : MethodName) (head1 (Jvm.Cond.code (⟨"com/example/loopwright/loopwright/solver/Term", "bool", "(Z)Lcom/example/loopwright/loopwright/solver/Term;"⟩ : MethodName) prog_96_method_6_code 1 (some (.object "com/example/loopwright/loopwright/solver/Term")) :: ws) ({ frames := 0, cells := 0, slots := 0, locals := 0 } : Room)) (fun a U => a = #[(.int (1 : Int32))] ∧ Z.Warmed39 U.vm ∧ U.heap = h0) (fun _ _ _ _ _ => True) (fun _ U o U' => ∃ v L, o = .returned v ∧ own_Q h0 n0 (some (.ref w_TRUE)) v U'.heap L ∧ FrameEnd U o U' L ({ frames := 0, cells := 0, slots := 0, locals := 0 } : Room).cells ({ frames := 0, cells := 0, slots := 0, locals := 0 } : Room).slots) := by
  obtain ⟨S_FALSE, E_FALSE, S_TRUE, E_TRUE, S_BOOL, E_BOOL, F_FALSE_value, E_FALSE_value, F_TRUE_value, E_TRUE_value, F_FALSE_sort, F_FALSE_value_signum, D_FALSE_TRUE, F_TRUE_sort, F_TRUE_value_signum⟩ := PN
  refine MetFree.of_bodySF (plainFor_of_name pn_com_example_loopwright_loopwright_solver_Term) hisR ?_
  intro p e s m args below meth c s₁ Bd hml0 hP hK
  obtain ⟨rfl, hZ, hh⟩ := hP
  have hx := Bd.exec
  have hby := Bd.bytes
  have hml : c.maxLocals = 1 := hml0
  have hown : s.vm.findClass "com/example/loopwright/loopwright/solver/Term" = some m.cls := findClass_of_methodNamed Bd.named
  have X0 : Stand p l e ({ frames := 0, cells := 0, slots := 0, locals := 0 } : Room) s m #[(.int (1 : Int32))] below meth c s₁ [] 0 0 := Stand.of_body Bd
  have e0 : s₁.heap = h0 := by rw [← hh, Bd.state]; rfl
  have N0 := Fr.nil n0
  refine (?_ : own_Fin p e below _ _)
  refine own_st (fun t k => castTop (ef_1_I m (1 : Int32)) k) ?_
  show own_Fin p e below _ (s₁.setTop (mkF m 0 #[.val (.int (1 : Int32))] []))
  refine own_st (fun t k => XS.iloadN X0.here hx rfl (hb hby d1_0) rfl k) ?_
  show own_Fin p e below _ (s₁.setTop (mkF m 1 #[.val (.int (1 : Int32))] [(.int (1 : Int32))]))
  refine own_st (fun t k => XS.ifNo X0.here hx rfl (hb hby d1_1) rfl (by decide) k) ?_
  show own_Fin p e below _ (s₁.setTop (mkF m 4 #[.val (.int (1 : Int32))] []))
  obtain ⟨T1, X1, e1, st1⟩ := getS2 X0 hx hZ hown (host := "") (Or.inl (hw _ (List.mem_of_getElem? (i := 9) rfl))) Via.refl e0 S_TRUE (g := (mkF m 4 #[.val (.int (1 : Int32))] [])) rfl (hb hby d1_4)
  refine own_st st1 ?_
  show own_Fin p e below _ (T1.setTop (mkF m 7 #[.val (.int (1 : Int32))] [(.ref w_TRUE)]))
  refine own_st (fun t k => XS.goto X1.here hx rfl (pc0 := 7) (pc' := 13) rfl (hb hby d1_7) (by decide) (by decide) k) ?_
  show own_Fin p e below _ (T1.setTop (mkF m 13 #[.val (.int (1 : Int32))] [(.ref w_TRUE)]))
  obtain ⟨fs, hr, hrun, hended, hW, hsame⟩ := X1.leave (v := some (.ref w_TRUE)) (fun h => by rw [Bd.returns] at h; cases h)
  exact ⟨_, _, retOut X1 hx (t := (.object "com/example/loopwright/loopwright/solver/Term")) Bd.returns rfl (Or.inr (Or.inr (Or.inr (Or.inr ⟨rfl, rfl, rfl⟩)))) (hb hby d1_13) hr, hrun, hended, _, _, rfl, ⟨rfl, N0, e1⟩, ⟨_, rfl⟩, hW, hsame.mono (by decide) (by decide)⟩
theorem d2_0 : decode prog_96_method_17_code 0 = .ok (.getstatic 132, 3) := by decide +kernel
theorem d2_3 : decode prog_96_method_17_code 3 = .ok (.aload_n 0, 1) := by decide +kernel
theorem d2_4 : decode prog_96_method_17_code 4 = .ok (.aload_n 0, 1) := by decide +kernel
theorem d2_5 : decode prog_96_method_17_code 5 = .ok (.invokestatic 114, 3) := by decide +kernel
theorem d3_0 : decode prog_96_method_31_code 0 = .ok (.aload_n 1, 1) := by decide +kernel
theorem d3_1 : decode prog_96_method_31_code 1 = .ok (.invokeinterface 137 1, 5) := by decide +kernel
theorem d4_0 : decode prog_98_method_7_code 0 = .ok (.aload_n 0, 1) := by decide +kernel
theorem d4_1 : decode prog_98_method_7_code 1 = .ok (.getfield 31, 3) := by decide +kernel
theorem d4_4 : decode prog_98_method_7_code 4 = .ok (.areturn, 1) := by decide +kernel
theorem ef_4_R (m : MethodId) (x0 : Addr) : entryFrame m #[(.ref x0)] 1 = mkF m 0 #[.val (.ref x0)] [] := by first | (simp [entryFrame, mkF, argsToLocals, Value.category]; done) | rfl
theorem pn_com_example_loopwright_loopwright_solver_Term_Constant : plainName "com/example/loopwright/loopwright/solver/Term$Constant" = true := by first | (simp [plainName, overriddenIn]; done) | decide +kernel
set_option maxRecDepth 65536 in
set_option maxHeartbeats 40000000 in
theorem rm4_w_FALSE (l : Launch) (Z : State) (a0 : Array Value) (hw : ∀ d ∈ tables_1, d.before a0 Z = true) (ws : List Jvm.Cond) (w_FALSE w_TRUE w_BOOL w_FALSE_value w_TRUE_value : Addr) (h0 : Heap) (n0 : Nat) (PN : own_Pins Z h0 w_FALSE w_TRUE w_BOOL w_FALSE_value w_TRUE_value) :
    MetFree l (⟨"com/example/loopwright/loopwright/solver/Term$Constant", "sort", "()Lcom/example/loopwright/loopwright/solver/Sort;"⟩ : MethodName) (head1 (Jvm.Cond.code (⟨"com/example/loopwright/loopwright/solver/Term$Constant", "sort", "()Lcom/example/loopwright/loopwright/solver/Sort;"⟩ : MethodName) prog_98_method_7_code 1 (some (.object "com/example/loopwright/loopwright/solver/Sort")) :: ws) ({ frames := 0, cells := 0, slots := 0, locals := 0 } : Room)) (fun a U => a = #[(.ref w_FALSE)] ∧ Z.Warmed39 U.vm ∧ U.heap = h0) (fun _ _ _ _ _ => True) (fun _ U o U' => ∃ v L, o = .returned v ∧ own_Q h0 n0 (some (.ref w_BOOL)) v U'.heap L ∧ FrameEnd U o U' L ({ frames := 0, cells := 0, slots := 0, locals := 0 } : Room).cells ({ frames := 0, cells := 0, slots := 0, locals := 0 } : Room).slots) := by
  obtain ⟨S_FALSE, E_FALSE, S_TRUE, E_TRUE, S_BOOL, E_BOOL, F_FALSE_value, E_FALSE_value, F_TRUE_value, E_TRUE_value, F_FALSE_sort, F_FALSE_value_signum, D_FALSE_TRUE, F_TRUE_sort, F_TRUE_value_signum⟩ := PN
  refine MetFree.of_bodySF (plainFor_of_name pn_com_example_loopwright_loopwright_solver_Term_Constant) hisR ?_
  intro p e s m args below meth c s₁ Bd hml0 hP hK
  obtain ⟨rfl, hZ, hh⟩ := hP
  have hx := Bd.exec
  have hby := Bd.bytes
  have hml : c.maxLocals = 1 := hml0
  have hown : s.vm.findClass "com/example/loopwright/loopwright/solver/Term$Constant" = some m.cls := findClass_of_methodNamed Bd.named
  have X0 : Stand p l e ({ frames := 0, cells := 0, slots := 0, locals := 0 } : Room) s m #[(.ref w_FALSE)] below meth c s₁ [] 0 0 := Stand.of_body Bd
  have e0 : s₁.heap = h0 := by rw [← hh, Bd.state]; rfl
  have N0 := Fr.nil n0
  refine (?_ : own_Fin p e below _ _)
  refine own_st (fun t k => castTop (ef_4_R m w_FALSE) k) ?_
  show own_Fin p e below _ (s₁.setTop (mkF m 0 #[.val (.ref w_FALSE)] []))
  refine own_st (fun t k => XS.aloadN X0.here hx rfl (hb hby d4_0) rfl rfl k) ?_
  show own_Fin p e below _ (s₁.setTop (mkF m 1 #[.val (.ref w_FALSE)] [(.ref w_FALSE)]))
  obtain ⟨T1, X1, e1, st1⟩ := getF X0 hx hZ hown (host := "") (Or.inl (hw _ (List.mem_of_getElem? (i := 29) rfl))) Via.refl e0 F_FALSE_sort (g := (mkF m 1 #[.val (.ref w_FALSE)] [(.ref w_FALSE)])) rfl rfl (hb hby d4_1)
  refine own_st st1 ?_
  show own_Fin p e below _ (T1.setTop (mkF m 4 #[.val (.ref w_FALSE)] [(.ref w_BOOL)]))
  obtain ⟨fs, hr, hrun, hended, hW, hsame⟩ := X1.leave (v := some (.ref w_BOOL)) (fun h => by rw [Bd.returns] at h; cases h)
  exact ⟨_, _, retOut X1 hx (t := (.object "com/example/loopwright/loopwright/solver/Sort")) Bd.returns rfl (Or.inr (Or.inr (Or.inr (Or.inr ⟨rfl, rfl, rfl⟩)))) (hb hby d4_4) hr, hrun, hended, _, _, rfl, ⟨rfl, N0, e1⟩, ⟨_, rfl⟩, hW, hsame.mono (by decide) (by decide)⟩
theorem pd___Lcom_example_loopwright_loopwright_solver_Sort_ : parseMethodDescriptor "()Lcom/example/loopwright/loopwright/solver/Sort;" = some ⟨[], some (.object "com/example/loopwright/loopwright/solver/Sort")⟩ := by decide +kernel
theorem d3_6 : decode prog_96_method_31_code 6 = .ok (.aload_n 0, 1) := by decide +kernel
theorem d3_7 : decode prog_96_method_31_code 7 = .ok (.if_acmp .ne 13, 3) := by decide +kernel
theorem d3_10 : decode prog_96_method_31_code 10 = .ok (.aload_n 2, 1) := by decide +kernel
theorem d3_11 : decode prog_96_method_31_code 11 = .ok (.invokeinterface 137 1, 5) := by decide +kernel
theorem d3_16 : decode prog_96_method_31_code 16 = .ok (.aload_n 0, 1) := by decide +kernel
theorem d3_17 : decode prog_96_method_31_code 17 = .ok (.if_acmp .eq 38, 3) := by decide +kernel
theorem d3_55 : decode prog_96_method_31_code 55 = .ok (.return_, 1) := by decide +kernel
theorem ef_3_RRR (m : MethodId) (x0 : Addr) (x1 : Addr) (x2 : Addr) : entryFrame m #[(.ref x0), (.ref x1), (.ref x2)] 3 = mkF m 0 #[.val (.ref x0), .val (.ref x1), .val (.ref x2)] [] := by first | (simp [entryFrame, mkF, argsToLocals, Value.category]; done) | rfl
set_option maxRecDepth 65536 in
set_option maxHeartbeats 40000000 in
theorem rm3_w_BOOL_w_FALSE_w_FALSE (l : Launch) (Z : State) (a0 : Array Value) (hw : ∀ d ∈ tables_1, d.before a0 Z = true) (ws : List Jvm.Cond) (w_FALSE w_TRUE w_BOOL w_FALSE_value w_TRUE_value : Addr) (h0 : Heap) (n0 : Nat) (PN : own_Pins Z h0 w_FALSE w_TRUE w_BOOL w_FALSE_value w_TRUE_value) :
    MetFree l (⟨"com/example/loopwright/loopwright/solver/Term", "requireSort", "(Lcom/example/loopwright/loopwright/solver/Sort;Lcom/example/loopwright/loopwright/solver/Term;Lcom/example/loopwright/loopwright/solver/Term;)V"⟩ : MethodName) (head1 (Jvm.Cond.code (⟨"com/example/loopwright/loopwright/solver/Term", "requireSort", "(Lcom/example/loopwright/loopwright/solver/Sort;Lcom/example/loopwright/loopwright/solver/Term;Lcom/example/loopwright/loopwright/solver/Term;)V"⟩ : MethodName) prog_96_method_31_code 3 none :: ws) ({ frames := 1, cells := 0, slots := 0, locals := 12 } : Room)) (fun a U => a = #[(.ref w_BOOL), (.ref w_FALSE), (.ref w_FALSE)] ∧ Z.Warmed39 U.vm ∧ U.heap = h0) (fun _ _ _ _ _ => True) (fun _ U o U' => ∃ v L, o = .returned v ∧ own_Q h0 n0 none v U'.heap L ∧ FrameEnd U o U' L ({ frames := 1, cells := 0, slots := 0, locals := 12 } : Room).cells ({ frames := 1, cells := 0, slots := 0, locals := 12 } : Room).slots) := by
  obtain ⟨S_FALSE, E_FALSE, S_TRUE, E_TRUE, S_BOOL, E_BOOL, F_FALSE_value, E_FALSE_value, F_TRUE_value, E_TRUE_value, F_FALSE_sort, F_FALSE_value_signum, D_FALSE_TRUE, F_TRUE_sort, F_TRUE_value_signum⟩ := PN
  refine MetFree.of_bodySF (plainFor_of_name pn_com_example_loopwright_loopwright_solver_Term) hisR ?_
  intro p e s m args below meth c s₁ Bd hml0 hP hK
  obtain ⟨rfl, hZ, hh⟩ := hP
  have hx := Bd.exec
  have hby := Bd.bytes
  have hml : c.maxLocals = 3 := hml0
  have hown : s.vm.findClass "com/example/loopwright/loopwright/solver/Term" = some m.cls := findClass_of_methodNamed Bd.named
  have X0 : Stand p l e ({ frames := 1, cells := 0, slots := 0, locals := 12 } : Room) s m #[(.ref w_BOOL), (.ref w_FALSE), (.ref w_FALSE)] below meth c s₁ [] 0 0 := Stand.of_body Bd
  have e0 : s₁.heap = h0 := by rw [← hh, Bd.state]; rfl
  have N0 := Fr.nil n0
  refine (?_ : own_Fin p e below _ _)
  refine own_st (fun t k => castTop (ef_3_RRR m w_BOOL w_FALSE w_FALSE) k) ?_
  show own_Fin p e below _ (s₁.setTop (mkF m 0 #[.val (.ref w_BOOL), .val (.ref w_FALSE), .val (.ref w_FALSE)] []))
  refine own_st (fun t k => XS.aloadN X0.here hx rfl (hb hby d3_0) rfl rfl k) ?_
  show own_Fin p e below _ (s₁.setTop (mkF m 1 #[.val (.ref w_BOOL), .val (.ref w_FALSE), .val (.ref w_FALSE)] [(.ref w_FALSE)]))
  obtain ⟨cq1, kq1, q1a, q1b, q1c⟩ := isOf hZ e0 E_FALSE
  obtain ⟨_, _, ⟨T1, L1, k1, n1⟩, -, X1, ⟨Lc1, hQ1, l1, y1, z1⟩, st1⟩ := X0.interfaceBack hx (xi := (⟨"com/example/loopwright/loopwright/solver/Term", "sort", "()Lcom/example/loopwright/loopwright/solver/Sort;"⟩ : MethodName)) (y := (⟨"com/example/loopwright/loopwright/solver/Term$Constant", "sort", "()Lcom/example/loopwright/loopwright/solver/Sort;"⟩ : MethodName)) hown (mvT hZ (hw _ (List.mem_of_getElem? (i := 19) rfl))) (mvT hZ (hw _ (List.mem_of_getElem? (i := 20) rfl))) (mvT hZ (hw _ (List.mem_of_getElem? (i := 21) rfl))) (mvT hZ (hw _ (List.mem_of_getElem? (i := 22) rfl))) (mvT hZ (hw _ (List.mem_of_getElem? (i := 23) rfl))) (mvT hZ (hw _ (List.mem_of_getElem? (i := 24) rfl))) (mvT hZ (hw _ (List.mem_of_getElem? (i := 25) rfl))) (mvT hZ (hw _ (List.mem_of_getElem? (i := 26) rfl))) (by decide) (backOf (W := 0) (rm4_w_FALSE l Z a0 hw [] w_FALSE w_TRUE w_BOOL w_FALSE_value w_TRUE_value h0 n0 (by exact ⟨S_FALSE, E_FALSE, S_TRUE, E_TRUE, S_BOOL, E_BOOL, F_FALSE_value, E_FALSE_value, F_TRUE_value, E_TRUE_value, F_FALSE_sort, F_FALSE_value_signum, D_FALSE_TRUE, F_TRUE_sort, F_TRUE_value_signum⟩)) hZ (hw _ (List.mem_of_getElem? (i := 28) rfl)) (hw _ (List.mem_of_getElem? (i := 27) rfl)) (by decide) (by decide)) q1a q1b q1c (g := (mkF m 1 #[.val (.ref w_BOOL), .val (.ref w_FALSE), .val (.ref w_FALSE)] [(.ref w_FALSE)])) rfl (by rw [hml]; rfl) (Steps.refl _) (argsL := []) (rest := []) (lenOf pd___Lcom_example_loopwright_loopwright_solver_Sort_ rfl) rfl (by show 2 * 0 + _ ≤ _; exact Nat.le_of_eq rfl) (hb hby d3_1) (fun _ _ => ⟨rfl, e0, (by decide : 0 + 0 ≤ _), (by decide : 0 + 0 ≤ _)⟩)
  dsimp only [Pt.U, Pt.locs, Pt.cells, Pt.slots] at X1 l1 y1 z1 st1 hQ1
  subst l1 y1 z1
  obtain ⟨rfl, N1q, e1⟩ := hQ1
  have N1 := Fr.app N0 N1q
  refine own_tr st1 ?_
  show own_Fin p e below _ (T1.setTop (mkF m 6 #[.val (.ref w_BOOL), .val (.ref w_FALSE), .val (.ref w_FALSE)] [(.ref w_BOOL)]))
  refine own_st (fun t k => XS.aloadN X1.here hx rfl (hb hby d3_6) rfl rfl k) ?_
  show own_Fin p e below _ (T1.setTop (mkF m 7 #[.val (.ref w_BOOL), .val (.ref w_FALSE), .val (.ref w_FALSE)] [(.ref w_BOOL), (.ref w_BOOL)]))
  refine own_st (fun t k => Jvm.RoadKit.acmp (g := (mkF m 7 #[.val (.ref w_BOOL), .val (.ref w_FALSE), .val (.ref w_FALSE)] [(.ref w_BOOL), (.ref w_BOOL)])) X1 hx rfl rfl rfl (pc0 := 7) (pc' := 10) (same := true) rfl (hb hby d3_7) rfl (decide_eq_true rfl) (by decide) (by decide) k) ?_
  show own_Fin p e below _ (T1.setTop (mkF m 10 #[.val (.ref w_BOOL), .val (.ref w_FALSE), .val (.ref w_FALSE)] []))
  refine own_st (fun t k => XS.aloadN X1.here hx rfl (hb hby d3_10) rfl rfl k) ?_
  show own_Fin p e below _ (T1.setTop (mkF m 11 #[.val (.ref w_BOOL), .val (.ref w_FALSE), .val (.ref w_FALSE)] [(.ref w_FALSE)]))
  obtain ⟨cq2, kq2, q2a, q2b, q2c⟩ := isOf hZ e1 E_FALSE
  obtain ⟨_, _, ⟨T2, L2, k2, n2⟩, -, X2, ⟨Lc2, hQ2, l2, y2, z2⟩, st2⟩ := X1.interfaceBack hx (xi := (⟨"com/example/loopwright/loopwright/solver/Term", "sort", "()Lcom/example/loopwright/loopwright/solver/Sort;"⟩ : MethodName)) (y := (⟨"com/example/loopwright/loopwright/solver/Term$Constant", "sort", "()Lcom/example/loopwright/loopwright/solver/Sort;"⟩ : MethodName)) hown (mvT hZ (hw _ (List.mem_of_getElem? (i := 19) rfl))) (mvT hZ (hw _ (List.mem_of_getElem? (i := 20) rfl))) (mvT hZ (hw _ (List.mem_of_getElem? (i := 21) rfl))) (mvT hZ (hw _ (List.mem_of_getElem? (i := 22) rfl))) (mvT hZ (hw _ (List.mem_of_getElem? (i := 23) rfl))) (mvT hZ (hw _ (List.mem_of_getElem? (i := 24) rfl))) (mvT hZ (hw _ (List.mem_of_getElem? (i := 25) rfl))) (mvT hZ (hw _ (List.mem_of_getElem? (i := 26) rfl))) (by decide) (backOf (W := 0) (rm4_w_FALSE l Z a0 hw [] w_FALSE w_TRUE w_BOOL w_FALSE_value w_TRUE_value h0 n0 (by exact ⟨S_FALSE, E_FALSE, S_TRUE, E_TRUE, S_BOOL, E_BOOL, F_FALSE_value, E_FALSE_value, F_TRUE_value, E_TRUE_value, F_FALSE_sort, F_FALSE_value_signum, D_FALSE_TRUE, F_TRUE_sort, F_TRUE_value_signum⟩)) hZ (hw _ (List.mem_of_getElem? (i := 28) rfl)) (hw _ (List.mem_of_getElem? (i := 27) rfl)) (by decide) (by decide)) q2a q2b q2c (g := (mkF m 11 #[.val (.ref w_BOOL), .val (.ref w_FALSE), .val (.ref w_FALSE)] [(.ref w_FALSE)])) rfl (by rw [hml]; rfl) (Steps.refl _) (argsL := []) (rest := []) (lenOf pd___Lcom_example_loopwright_loopwright_solver_Sort_ rfl) rfl (by show 2 * 0 + _ ≤ _; exact Nat.le_of_eq rfl) (hb hby d3_11) (fun _ _ => ⟨rfl, e1, (by decide : 0 + 0 ≤ _), (by decide : 0 + 0 ≤ _)⟩)
  dsimp only [Pt.U, Pt.locs, Pt.cells, Pt.slots] at X2 l2 y2 z2 st2 hQ2
  subst l2 y2 z2
  obtain ⟨rfl, N2q, e2⟩ := hQ2
  have N2 := Fr.app N1 N2q
  refine own_tr st2 ?_
  show own_Fin p e below _ (T2.setTop (mkF m 16 #[.val (.ref w_BOOL), .val (.ref w_FALSE), .val (.ref w_FALSE)] [(.ref w_BOOL)]))
  refine own_st (fun t k => XS.aloadN X2.here hx rfl (hb hby d3_16) rfl rfl k) ?_
  show own_Fin p e below _ (T2.setTop (mkF m 17 #[.val (.ref w_BOOL), .val (.ref w_FALSE), .val (.ref w_FALSE)] [(.ref w_BOOL), (.ref w_BOOL)]))
  refine own_st (fun t k => Jvm.RoadKit.acmp (g := (mkF m 17 #[.val (.ref w_BOOL), .val (.ref w_FALSE), .val (.ref w_FALSE)] [(.ref w_BOOL), (.ref w_BOOL)])) X2 hx rfl rfl rfl (pc0 := 17) (pc' := 55) (same := true) rfl (hb hby d3_17) rfl (decide_eq_true rfl) (by decide) (by decide) k) ?_
  show own_Fin p e below _ (T2.setTop (mkF m 55 #[.val (.ref w_BOOL), .val (.ref w_FALSE), .val (.ref w_FALSE)] []))
  obtain ⟨fs, hr, hrun, hended, hW, hsame⟩ := X2.leave (v := none) (fun _ => rfl)
  exact ⟨_, _, X2.returnOut hx Bd.returns (hb hby d3_55) hr, hrun, hended, _, _, rfl, ⟨rfl, N2, e2⟩, ⟨_, rfl⟩, hW, hsame.mono (by decide) (by decide)⟩
theorem pd__Lcom_example_loopwright_loopwright_solver_Sort_Lcom_example_loopwright_loopwright_solver_Term_Lcom_example_loopwright_loopwright_solver_Term__V : parseMethodDescriptor "(Lcom/example/loopwright/loopwright/solver/Sort;Lcom/example/loopwright/loopwright/solver/Term;Lcom/example/loopwright/loopwright/solver/Term;)V" = some ⟨[(.object "com/example/loopwright/loopwright/solver/Sort"), (.object "com/example/loopwright/loopwright/solver/Term"), (.object "com/example/loopwright/loopwright/solver/Term")], none⟩ := by decide +kernel
theorem d2_8 : decode prog_96_method_17_code 8 = .ok (.aload_n 0, 1) := by decide +kernel
theorem d2_9 : decode prog_96_method_17_code 9 = .ok (.instanceof 13, 3) := by decide +kernel
theorem d2_12 : decode prog_96_method_17_code 12 = .ok (.ifCond .eq 30, 3) := by decide +kernel
theorem d2_15 : decode prog_96_method_17_code 15 = .ok (.aload_n 0, 1) := by decide +kernel
theorem d2_16 : decode prog_96_method_17_code 16 = .ok (.checkcast 13, 3) := by decide +kernel
theorem d2_19 : decode prog_96_method_17_code 19 = .ok (.astore_n 2, 1) := by decide +kernel
theorem d2_20 : decode prog_96_method_17_code 20 = .ok (.aload_n 2, 1) := by decide +kernel
theorem d2_21 : decode prog_96_method_17_code 21 = .ok (.invokevirtual 44, 3) := by decide +kernel
theorem d5_0 : decode prog_98_method_6_code 0 = .ok (.aload_n 0, 1) := by decide +kernel
theorem d5_1 : decode prog_98_method_6_code 1 = .ok (.getfield 25, 3) := by decide +kernel
theorem d5_4 : decode prog_98_method_6_code 4 = .ok (.areturn, 1) := by decide +kernel
theorem ef_5_R (m : MethodId) (x0 : Addr) : entryFrame m #[(.ref x0)] 1 = mkF m 0 #[.val (.ref x0)] [] := by first | (simp [entryFrame, mkF, argsToLocals, Value.category]; done) | rfl
set_option maxRecDepth 65536 in
set_option maxHeartbeats 40000000 in
theorem rm5_w_FALSE (l : Launch) (Z : State) (a0 : Array Value) (hw : ∀ d ∈ tables_1, d.before a0 Z = true) (ws : List Jvm.Cond) (w_FALSE w_TRUE w_BOOL w_FALSE_value w_TRUE_value : Addr) (h0 : Heap) (n0 : Nat) (PN : own_Pins Z h0 w_FALSE w_TRUE w_BOOL w_FALSE_value w_TRUE_value) :
    MetFree l (⟨"com/example/loopwright/loopwright/solver/Term$Constant", "value", "()Ljava/math/BigInteger;"⟩ : MethodName) (head1 (Jvm.Cond.code (⟨"com/example/loopwright/loopwright/solver/Term$Constant", "value", "()Ljava/math/BigInteger;"⟩ : MethodName) prog_98_method_6_code 1 (some (.object "java/math/BigInteger")) :: ws) ({ frames := 0, cells := 0, slots := 0, locals := 0 } : Room)) (fun a U => a = #[(.ref w_FALSE)] ∧ Z.Warmed39 U.vm ∧ U.heap = h0) (fun _ _ _ _ _ => True) (fun _ U o U' => ∃ v L, o = .returned v ∧ own_Q h0 n0 (some (.ref w_FALSE_value)) v U'.heap L ∧ FrameEnd U o U' L ({ frames := 0, cells := 0, slots := 0, locals := 0 } : Room).cells ({ frames := 0, cells := 0, slots := 0, locals := 0 } : Room).slots) := by
  obtain ⟨S_FALSE, E_FALSE, S_TRUE, E_TRUE, S_BOOL, E_BOOL, F_FALSE_value, E_FALSE_value, F_TRUE_value, E_TRUE_value, F_FALSE_sort, F_FALSE_value_signum, D_FALSE_TRUE, F_TRUE_sort, F_TRUE_value_signum⟩ := PN
  refine MetFree.of_bodySF (plainFor_of_name pn_com_example_loopwright_loopwright_solver_Term_Constant) hisR ?_
  intro p e s m args below meth c s₁ Bd hml0 hP hK
  obtain ⟨rfl, hZ, hh⟩ := hP
  have hx := Bd.exec
  have hby := Bd.bytes
  have hml : c.maxLocals = 1 := hml0
  have hown : s.vm.findClass "com/example/loopwright/loopwright/solver/Term$Constant" = some m.cls := findClass_of_methodNamed Bd.named
  have X0 : Stand p l e ({ frames := 0, cells := 0, slots := 0, locals := 0 } : Room) s m #[(.ref w_FALSE)] below meth c s₁ [] 0 0 := Stand.of_body Bd
  have e0 : s₁.heap = h0 := by rw [← hh, Bd.state]; rfl
  have N0 := Fr.nil n0
  refine (?_ : own_Fin p e below _ _)
  refine own_st (fun t k => castTop (ef_5_R m w_FALSE) k) ?_
  show own_Fin p e below _ (s₁.setTop (mkF m 0 #[.val (.ref w_FALSE)] []))
  refine own_st (fun t k => XS.aloadN X0.here hx rfl (hb hby d5_0) rfl rfl k) ?_
  show own_Fin p e below _ (s₁.setTop (mkF m 1 #[.val (.ref w_FALSE)] [(.ref w_FALSE)]))
  obtain ⟨T1, X1, e1, st1⟩ := getF X0 hx hZ hown (host := "") (Or.inl (hw _ (List.mem_of_getElem? (i := 38) rfl))) Via.refl e0 F_FALSE_value (g := (mkF m 1 #[.val (.ref w_FALSE)] [(.ref w_FALSE)])) rfl rfl (hb hby d5_1)
  refine own_st st1 ?_
  show own_Fin p e below _ (T1.setTop (mkF m 4 #[.val (.ref w_FALSE)] [(.ref w_FALSE_value)]))
  obtain ⟨fs, hr, hrun, hended, hW, hsame⟩ := X1.leave (v := some (.ref w_FALSE_value)) (fun h => by rw [Bd.returns] at h; cases h)
  exact ⟨_, _, retOut X1 hx (t := (.object "java/math/BigInteger")) Bd.returns rfl (Or.inr (Or.inr (Or.inr (Or.inr ⟨rfl, rfl, rfl⟩)))) (hb hby d5_4) hr, hrun, hended, _, _, rfl, ⟨rfl, N0, e1⟩, ⟨_, rfl⟩, hW, hsame.mono (by decide) (by decide)⟩
theorem pd___Ljava_math_BigInteger_ : parseMethodDescriptor "()Ljava/math/BigInteger;" = some ⟨[], some (.object "java/math/BigInteger")⟩ := by decide +kernel
theorem d2_24 : decode prog_96_method_17_code 24 = .ok (.invokevirtual 156, 3) := by decide +kernel
theorem d6_0 : decode jdk_2097_method_81_code 0 = .ok (.aload_n 0, 1) := by decide +kernel
theorem d6_1 : decode jdk_2097_method_81_code 1 = .ok (.getfield 32, 3) := by decide +kernel
theorem d6_4 : decode jdk_2097_method_81_code 4 = .ok (.ireturn, 1) := by decide +kernel
theorem ef_6_R (m : MethodId) (x0 : Addr) : entryFrame m #[(.ref x0)] 1 = mkF m 0 #[.val (.ref x0)] [] := by first | (simp [entryFrame, mkF, argsToLocals, Value.category]; done) | rfl
theorem pn_java_math_BigInteger : plainName "java/math/BigInteger" = true := by first | (simp [plainName, overriddenIn]; done) | decide +kernel
set_option maxRecDepth 65536 in
set_option maxHeartbeats 40000000 in
theorem rm6_w_FALSE_value (l : Launch) (Z : State) (a0 : Array Value) (hw : ∀ d ∈ tables_1, d.before a0 Z = true) (ws : List Jvm.Cond) (w_FALSE w_TRUE w_BOOL w_FALSE_value w_TRUE_value : Addr) (h0 : Heap) (n0 : Nat) (PN : own_Pins Z h0 w_FALSE w_TRUE w_BOOL w_FALSE_value w_TRUE_value) :
    MetFree l (⟨"java/math/BigInteger", "signum", "()I"⟩ : MethodName) (head1 (Jvm.Cond.code (⟨"java/math/BigInteger", "signum", "()I"⟩ : MethodName) jdk_2097_method_81_code 1 (some .int) :: ws) ({ frames := 0, cells := 0, slots := 0, locals := 0 } : Room)) (fun a U => a = #[(.ref w_FALSE_value)] ∧ Z.Warmed39 U.vm ∧ U.heap = h0) (fun _ _ _ _ _ => True) (fun _ U o U' => ∃ v L, o = .returned v ∧ own_Q h0 n0 (some (.int (0 : Int32))) v U'.heap L ∧ FrameEnd U o U' L ({ frames := 0, cells := 0, slots := 0, locals := 0 } : Room).cells ({ frames := 0, cells := 0, slots := 0, locals := 0 } : Room).slots) := by
  obtain ⟨S_FALSE, E_FALSE, S_TRUE, E_TRUE, S_BOOL, E_BOOL, F_FALSE_value, E_FALSE_value, F_TRUE_value, E_TRUE_value, F_FALSE_sort, F_FALSE_value_signum, D_FALSE_TRUE, F_TRUE_sort, F_TRUE_value_signum⟩ := PN
  refine MetFree.of_bodySF (plainFor_of_name pn_java_math_BigInteger) hisR ?_
  intro p e s m args below meth c s₁ Bd hml0 hP hK
  obtain ⟨rfl, hZ, hh⟩ := hP
  have hx := Bd.exec
  have hby := Bd.bytes
  have hml : c.maxLocals = 1 := hml0
  have hown : s.vm.findClass "java/math/BigInteger" = some m.cls := findClass_of_methodNamed Bd.named
  have X0 : Stand p l e ({ frames := 0, cells := 0, slots := 0, locals := 0 } : Room) s m #[(.ref w_FALSE_value)] below meth c s₁ [] 0 0 := Stand.of_body Bd
  have e0 : s₁.heap = h0 := by rw [← hh, Bd.state]; rfl
  have N0 := Fr.nil n0
  refine (?_ : own_Fin p e below _ _)
  refine own_st (fun t k => castTop (ef_6_R m w_FALSE_value) k) ?_
  show own_Fin p e below _ (s₁.setTop (mkF m 0 #[.val (.ref w_FALSE_value)] []))
  refine own_st (fun t k => XS.aloadN X0.here hx rfl (hb hby d6_0) rfl rfl k) ?_
  show own_Fin p e below _ (s₁.setTop (mkF m 1 #[.val (.ref w_FALSE_value)] [(.ref w_FALSE_value)]))
  obtain ⟨T1, X1, e1, st1⟩ := getF X0 hx hZ hown (host := "") (Or.inl (hw _ (List.mem_of_getElem? (i := 46) rfl))) Via.refl e0 F_FALSE_value_signum (g := (mkF m 1 #[.val (.ref w_FALSE_value)] [(.ref w_FALSE_value)])) rfl rfl (hb hby d6_1)
  refine own_st st1 ?_
  show own_Fin p e below _ (T1.setTop (mkF m 4 #[.val (.ref w_FALSE_value)] [(.int (0 : Int32))]))
  obtain ⟨fs, hr, hrun, hended, hW, hsame⟩ := X1.leave (v := some (.int (0 : Int32))) (fun h => by rw [Bd.returns] at h; cases h)
  exact ⟨_, _, retI X1 hx Bd.returns (hb hby d6_4) hr, hrun, hended, _, _, rfl, ⟨rfl, N0, e1⟩, ⟨_, rfl⟩, hW, hsame.mono (by decide) (by decide)⟩
theorem pd___I : parseMethodDescriptor "()I" = some ⟨[], some .int⟩ := by decide +kernel
theorem d2_27 : decode prog_96_method_17_code 27 = .ok (.ifCond .ne 7, 3) := by decide +kernel
theorem d2_30 : decode prog_96_method_17_code 30 = .ok (.iconst 1, 1) := by decide +kernel
theorem d2_31 : decode prog_96_method_17_code 31 = .ok (.goto 4, 3) := by decide +kernel
theorem d2_35 : decode prog_96_method_17_code 35 = .ok (.invokestatic 126, 3) := by decide +kernel
theorem d2_38 : decode prog_96_method_17_code 38 = .ok (.astore_n 1, 1) := by decide +kernel
theorem d2_39 : decode prog_96_method_17_code 39 = .ok (.goto 57, 3) := by decide +kernel
theorem d2_96 : decode prog_96_method_17_code 96 = .ok (.aload_n 1, 1) := by decide +kernel
theorem d2_97 : decode prog_96_method_17_code 97 = .ok (.areturn, 1) := by decide +kernel
theorem ef_2_R (m : MethodId) (x0 : Addr) : entryFrame m #[(.ref x0)] 4 = mkF m 0 #[.val (.ref x0), .unset, .unset, .unset] [] := by first | (simp [entryFrame, mkF, argsToLocals, Value.category]; done) | rfl
set_option maxRecDepth 65536 in
set_option maxHeartbeats 40000000 in
theorem rm2_w_FALSE (l : Launch) (Z : State) (a0 : Array Value) (hw : ∀ d ∈ tables_1, d.before a0 Z = true) (ws : List Jvm.Cond) (w_FALSE w_TRUE w_BOOL w_FALSE_value w_TRUE_value : Addr) (h0 : Heap) (n0 : Nat) (PN : own_Pins Z h0 w_FALSE w_TRUE w_BOOL w_FALSE_value w_TRUE_value) :
    MetFree l (⟨"com/example/loopwright/loopwright/solver/Term", "not", "(Lcom/example/loopwright/loopwright/solver/Term;)Lcom/example/loopwright/loopwright/solver/Term;"⟩ : MethodName) (head1 (Jvm.Cond.code (⟨"com/example/loopwright/loopwright/solver/Term", "not", "(Lcom/example/loopwright/loopwright/solver/Term;)Lcom/example/loopwright/loopwright/solver/Term;"⟩ : MethodName) prog_96_method_17_code 4 (some (.object "com/example/loopwright/loopwright/solver/Term")) :: ws) ({ frames := 2, cells := 0, slots := 0, locals := 26 } : Room)) (fun a U => a = #[(.ref w_FALSE)] ∧ Z.Warmed39 U.vm ∧ U.heap = h0) (fun _ _ _ _ _ => True) (fun _ U o U' => ∃ v L, o = .returned v ∧ own_Q h0 n0 (some (.ref w_TRUE)) v U'.heap L ∧ FrameEnd U o U' L ({ frames := 2, cells := 0, slots := 0, locals := 26 } : Room).cells ({ frames := 2, cells := 0, slots := 0, locals := 26 } : Room).slots) := by
  obtain ⟨S_FALSE, E_FALSE, S_TRUE, E_TRUE, S_BOOL, E_BOOL, F_FALSE_value, E_FALSE_value, F_TRUE_value, E_TRUE_value, F_FALSE_sort, F_FALSE_value_signum, D_FALSE_TRUE, F_TRUE_sort, F_TRUE_value_signum⟩ := PN
  refine MetFree.of_bodySF (plainFor_of_name pn_com_example_loopwright_loopwright_solver_Term) hisR ?_
  intro p e s m args below meth c s₁ Bd hml0 hP hK
  obtain ⟨rfl, hZ, hh⟩ := hP
  have hx := Bd.exec
  have hby := Bd.bytes
  have hml : c.maxLocals = 4 := hml0
  have hown : s.vm.findClass "com/example/loopwright/loopwright/solver/Term" = some m.cls := findClass_of_methodNamed Bd.named
  have X0 : Stand p l e ({ frames := 2, cells := 0, slots := 0, locals := 26 } : Room) s m #[(.ref w_FALSE)] below meth c s₁ [] 0 0 := Stand.of_body Bd
  have e0 : s₁.heap = h0 := by rw [← hh, Bd.state]; rfl
  have N0 := Fr.nil n0
  refine (?_ : own_Fin p e below _ _)
  refine own_st (fun t k => castTop (ef_2_R m w_FALSE) k) ?_
  show own_Fin p e below _ (s₁.setTop (mkF m 0 #[.val (.ref w_FALSE), .unset, .unset, .unset] []))
  obtain ⟨T1, X1, e1, st1⟩ := getS2 X0 hx hZ hown (host := "") (Or.inl (hw _ (List.mem_of_getElem? (i := 13) rfl))) Via.refl e0 S_BOOL (g := (mkF m 0 #[.val (.ref w_FALSE), .unset, .unset, .unset] [])) rfl (hb hby d2_0)
  refine own_st st1 ?_
  show own_Fin p e below _ (T1.setTop (mkF m 3 #[.val (.ref w_FALSE), .unset, .unset, .unset] [(.ref w_BOOL)]))
  refine own_st (fun t k => XS.aloadN X1.here hx rfl (hb hby d2_3) rfl rfl k) ?_
  show own_Fin p e below _ (T1.setTop (mkF m 4 #[.val (.ref w_FALSE), .unset, .unset, .unset] [(.ref w_FALSE), (.ref w_BOOL)]))
  refine own_st (fun t k => XS.aloadN X1.here hx rfl (hb hby d2_4) rfl rfl k) ?_
  show own_Fin p e below _ (T1.setTop (mkF m 5 #[.val (.ref w_FALSE), .unset, .unset, .unset] [(.ref w_FALSE), (.ref w_FALSE), (.ref w_BOOL)]))
  obtain ⟨_, _, ⟨T2, L2, k2, n2⟩, -, X2, ⟨Lc2, hQ2, l2, y2, z2⟩, st2⟩ := Jvm.LawKit.callS X1 hx (y := (⟨"com/example/loopwright/loopwright/solver/Term", "requireSort", "(Lcom/example/loopwright/loopwright/solver/Sort;Lcom/example/loopwright/loopwright/solver/Term;Lcom/example/loopwright/loopwright/solver/Term;)V"⟩ : MethodName)) hown (mvT hZ (hw _ (List.mem_of_getElem? (i := 16) rfl))) (mvT hZ (hw _ (List.mem_of_getElem? (i := 17) rfl))) (mvT hZ (hw _ (List.mem_of_getElem? (i := 1) rfl))) (mvT hZ (hw _ (List.mem_of_getElem? (i := 18) rfl))) (by decide) (backOf (W := 0) (rm3_w_BOOL_w_FALSE_w_FALSE l Z a0 hw [] w_FALSE w_TRUE w_BOOL w_FALSE_value w_TRUE_value h0 n0 (by exact ⟨S_FALSE, E_FALSE, S_TRUE, E_TRUE, S_BOOL, E_BOOL, F_FALSE_value, E_FALSE_value, F_TRUE_value, E_TRUE_value, F_FALSE_sort, F_FALSE_value_signum, D_FALSE_TRUE, F_TRUE_sort, F_TRUE_value_signum⟩)) hZ (hw _ (List.mem_of_getElem? (i := 18) rfl)) (hw _ (List.mem_of_getElem? (i := 1) rfl)) (by decide) (by decide)) (g := (mkF m 5 #[.val (.ref w_FALSE), .unset, .unset, .unset] [(.ref w_FALSE), (.ref w_FALSE), (.ref w_BOOL)])) rfl (by rw [hml]; rfl) (argsL := [(.ref w_BOOL), (.ref w_FALSE), (.ref w_FALSE)]) (rest := []) (lenOf pd__Lcom_example_loopwright_loopwright_solver_Sort_Lcom_example_loopwright_loopwright_solver_Term_Lcom_example_loopwright_loopwright_solver_Term__V rfl) rfl (by show 2 * 0 + _ ≤ _; exact Nat.le_of_eq rfl) (hb hby d2_5) (fun _ _ => ⟨rfl, e1, (by decide : 0 + 0 ≤ _), (by decide : 0 + 0 ≤ _)⟩)
  dsimp only [Pt.U, Pt.locs, Pt.cells, Pt.slots] at X2 l2 y2 z2 st2 hQ2
  subst l2 y2 z2
  obtain ⟨rfl, N2q, e2⟩ := hQ2
  have N2 := Fr.app N0 N2q
  refine own_st st2 ?_
  show own_Fin p e below _ (T2.setTop (mkF m 8 #[.val (.ref w_FALSE), .unset, .unset, .unset] []))
  refine own_st (fun t k => XS.aloadN X2.here hx rfl (hb hby d2_8) rfl rfl k) ?_
  show own_Fin p e below _ (T2.setTop (mkF m 9 #[.val (.ref w_FALSE), .unset, .unset, .unset] [(.ref w_FALSE)]))
  obtain ⟨T3, X3, e3, st3⟩ := instY X2 hx hZ hown (hw _ (List.mem_of_getElem? (i := 31) rfl)) e2 (Ins.self E_FALSE) (g := (mkF m 9 #[.val (.ref w_FALSE), .unset, .unset, .unset] [(.ref w_FALSE)])) rfl rfl (hb hby d2_9)
  refine own_st st3 ?_
  show own_Fin p e below _ (T3.setTop (mkF m 12 #[.val (.ref w_FALSE), .unset, .unset, .unset] [(.int (1 : Int32))]))
  refine own_st (fun t k => XS.ifNo X3.here hx rfl (hb hby d2_12) rfl (by decide) k) ?_
  show own_Fin p e below _ (T3.setTop (mkF m 15 #[.val (.ref w_FALSE), .unset, .unset, .unset] []))
  refine own_st (fun t k => XS.aloadN X3.here hx rfl (hb hby d2_15) rfl rfl k) ?_
  show own_Fin p e below _ (T3.setTop (mkF m 16 #[.val (.ref w_FALSE), .unset, .unset, .unset] [(.ref w_FALSE)]))
  obtain ⟨T4, X4, e4, st4⟩ := castY X3 hx hZ hown (hw _ (List.mem_of_getElem? (i := 31) rfl)) e3 (Ins.self E_FALSE) (g := (mkF m 16 #[.val (.ref w_FALSE), .unset, .unset, .unset] [(.ref w_FALSE)])) rfl rfl (hb hby d2_16)
  refine own_st st4 ?_
  show own_Fin p e below _ (T4.setTop (mkF m 19 #[.val (.ref w_FALSE), .unset, .unset, .unset] [(.ref w_FALSE)]))
  refine own_st (fun t k => XS.astoreN X4.here hx rfl (hb hby d2_19) rfl rfl (l' := #[.val (.ref w_FALSE), .unset, .val (.ref w_FALSE), .unset]) rfl k) ?_
  show own_Fin p e below _ (T4.setTop (mkF m 20 #[.val (.ref w_FALSE), .unset, .val (.ref w_FALSE), .unset] []))
  refine own_st (fun t k => XS.aloadN X4.here hx rfl (hb hby d2_20) rfl rfl k) ?_
  show own_Fin p e below _ (T4.setTop (mkF m 21 #[.val (.ref w_FALSE), .unset, .val (.ref w_FALSE), .unset] [(.ref w_FALSE)]))
  obtain ⟨cq5, kq5, q5a, q5b, q5c⟩ := isOf hZ e4 E_FALSE
  obtain ⟨_, _, ⟨T5, L5, k5, n5⟩, -, X5, ⟨Lc5, hQ5, l5, y5, z5⟩, st5⟩ := X4.virtualBack hx (y := (⟨"com/example/loopwright/loopwright/solver/Term$Constant", "value", "()Ljava/math/BigInteger;"⟩ : MethodName)) (z := (⟨"com/example/loopwright/loopwright/solver/Term$Constant", "value", "()Ljava/math/BigInteger;"⟩ : MethodName)) hown (mvT hZ (hw _ (List.mem_of_getElem? (i := 33) rfl))) (mvT hZ (hw _ (List.mem_of_getElem? (i := 34) rfl))) (notFace_of_selects (args := #[]) (mvT hZ (hw _ (List.mem_of_getElem? (i := 36) rfl)))) (mvT hZ (hw _ (List.mem_of_getElem? (i := 36) rfl))) (mvT hZ (hw _ (List.mem_of_getElem? (i := 35) rfl))) (by decide) (backOf (W := 0) (rm5_w_FALSE l Z a0 hw [] w_FALSE w_TRUE w_BOOL w_FALSE_value w_TRUE_value h0 n0 (by exact ⟨S_FALSE, E_FALSE, S_TRUE, E_TRUE, S_BOOL, E_BOOL, F_FALSE_value, E_FALSE_value, F_TRUE_value, E_TRUE_value, F_FALSE_sort, F_FALSE_value_signum, D_FALSE_TRUE, F_TRUE_sort, F_TRUE_value_signum⟩)) hZ (hw _ (List.mem_of_getElem? (i := 37) rfl)) (hw _ (List.mem_of_getElem? (i := 27) rfl)) (by decide) (by decide)) q5a q5c (g := (mkF m 21 #[.val (.ref w_FALSE), .unset, .val (.ref w_FALSE), .unset] [(.ref w_FALSE)])) rfl (by rw [hml]; rfl) (Steps.refl _) (argsL := []) (rest := []) (lenOf pd___Ljava_math_BigInteger_ rfl) rfl (by show 2 * 0 + _ ≤ _; exact Nat.le_of_eq rfl) (hb hby d2_21) (fun _ _ => ⟨rfl, e4, (by decide : 0 + 0 ≤ _), (by decide : 0 + 0 ≤ _)⟩)
  dsimp only [Pt.U, Pt.locs, Pt.cells, Pt.slots] at X5 l5 y5 z5 st5 hQ5
  subst l5 y5 z5
  obtain ⟨rfl, N5q, e5⟩ := hQ5
  have N5 := Fr.app N2 N5q
  refine own_tr st5 ?_
  show own_Fin p e below _ (T5.setTop (mkF m 24 #[.val (.ref w_FALSE), .unset, .val (.ref w_FALSE), .unset] [(.ref w_FALSE_value)]))
  obtain ⟨cq6, kq6, q6a, q6b, q6c⟩ := isOf hZ e5 E_FALSE_value
  obtain ⟨_, _, ⟨T6, L6, k6, n6⟩, -, X6, ⟨Lc6, hQ6, l6, y6, z6⟩, st6⟩ := X5.virtualBack hx (y := (⟨"java/math/BigInteger", "signum", "()I"⟩ : MethodName)) (z := (⟨"java/math/BigInteger", "signum", "()I"⟩ : MethodName)) hown (mvT hZ (hw _ (List.mem_of_getElem? (i := 40) rfl))) (mvT hZ (hw _ (List.mem_of_getElem? (i := 41) rfl))) (notFace_of_selects (args := #[]) (mvT hZ (hw _ (List.mem_of_getElem? (i := 43) rfl)))) (mvT hZ (hw _ (List.mem_of_getElem? (i := 43) rfl))) (mvT hZ (hw _ (List.mem_of_getElem? (i := 42) rfl))) (by decide) (backOf (W := 0) (rm6_w_FALSE_value l Z a0 hw [] w_FALSE w_TRUE w_BOOL w_FALSE_value w_TRUE_value h0 n0 (by exact ⟨S_FALSE, E_FALSE, S_TRUE, E_TRUE, S_BOOL, E_BOOL, F_FALSE_value, E_FALSE_value, F_TRUE_value, E_TRUE_value, F_FALSE_sort, F_FALSE_value_signum, D_FALSE_TRUE, F_TRUE_sort, F_TRUE_value_signum⟩)) hZ (hw _ (List.mem_of_getElem? (i := 45) rfl)) (hw _ (List.mem_of_getElem? (i := 44) rfl)) (by decide) (by decide)) q6a q6c (g := (mkF m 24 #[.val (.ref w_FALSE), .unset, .val (.ref w_FALSE), .unset] [(.ref w_FALSE_value)])) rfl (by rw [hml]; rfl) (Steps.refl _) (argsL := []) (rest := []) (lenOf pd___I rfl) rfl (by show 2 * 0 + _ ≤ _; exact Nat.le_of_eq rfl) (hb hby d2_24) (fun _ _ => ⟨rfl, e5, (by decide : 0 + 0 ≤ _), (by decide : 0 + 0 ≤ _)⟩)
  dsimp only [Pt.U, Pt.locs, Pt.cells, Pt.slots] at X6 l6 y6 z6 st6 hQ6
  subst l6 y6 z6
  obtain ⟨rfl, N6q, e6⟩ := hQ6
  have N6 := Fr.app N5 N6q
  refine own_tr st6 ?_
  show own_Fin p e below _ (T6.setTop (mkF m 27 #[.val (.ref w_FALSE), .unset, .val (.ref w_FALSE), .unset] [(.int (0 : Int32))]))
  refine own_st (fun t k => XS.ifNo X6.here hx rfl (hb hby d2_27) rfl (by decide) k) ?_
  show own_Fin p e below _ (T6.setTop (mkF m 30 #[.val (.ref w_FALSE), .unset, .val (.ref w_FALSE), .unset] []))
  refine own_st (fun t k => XS.iconst X6.here hx rfl (hb hby d2_30) k) ?_
  show own_Fin p e below _ (T6.setTop (mkF m 31 #[.val (.ref w_FALSE), .unset, .val (.ref w_FALSE), .unset] [(.int (1 : Int32))]))
  refine own_st (fun t k => XS.goto X6.here hx rfl (pc0 := 31) (pc' := 35) rfl (hb hby d2_31) (by decide) (by decide) k) ?_
  show own_Fin p e below _ (T6.setTop (mkF m 35 #[.val (.ref w_FALSE), .unset, .val (.ref w_FALSE), .unset] [(.int (1 : Int32))]))
  obtain ⟨_, _, ⟨T7, L7, k7, n7⟩, -, X7, ⟨Lc7, hQ7, l7, y7, z7⟩, st7⟩ := Jvm.LawKit.callS X6 hx (y := (⟨"com/example/loopwright/loopwright/solver/Term", "bool", "(Z)Lcom/example/loopwright/loopwright/solver/Term;"⟩ : MethodName)) hown (mvT hZ (hw _ (List.mem_of_getElem? (i := 48) rfl))) (mvT hZ (hw _ (List.mem_of_getElem? (i := 6) rfl))) (mvT hZ (hw _ (List.mem_of_getElem? (i := 1) rfl))) (mvT hZ (hw _ (List.mem_of_getElem? (i := 7) rfl))) (by decide) (backOf (W := 0) (rm1_1 l Z a0 hw [] w_FALSE w_TRUE w_BOOL w_FALSE_value w_TRUE_value h0 n0 (by exact ⟨S_FALSE, E_FALSE, S_TRUE, E_TRUE, S_BOOL, E_BOOL, F_FALSE_value, E_FALSE_value, F_TRUE_value, E_TRUE_value, F_FALSE_sort, F_FALSE_value_signum, D_FALSE_TRUE, F_TRUE_sort, F_TRUE_value_signum⟩)) hZ (hw _ (List.mem_of_getElem? (i := 7) rfl)) (hw _ (List.mem_of_getElem? (i := 1) rfl)) (by decide) (by decide)) (g := (mkF m 35 #[.val (.ref w_FALSE), .unset, .val (.ref w_FALSE), .unset] [(.int (1 : Int32))])) rfl (by rw [hml]; rfl) (argsL := [(.int (1 : Int32))]) (rest := []) (lenOf pd__Z_Lcom_example_loopwright_loopwright_solver_Term_ rfl) rfl (by show 2 * 0 + _ ≤ _; exact Nat.le_of_eq rfl) (hb hby d2_35) (fun _ _ => ⟨rfl, e6, (by decide : 0 + 0 ≤ _), (by decide : 0 + 0 ≤ _)⟩)
  dsimp only [Pt.U, Pt.locs, Pt.cells, Pt.slots] at X7 l7 y7 z7 st7 hQ7
  subst l7 y7 z7
  obtain ⟨rfl, N7q, e7⟩ := hQ7
  have N7 := Fr.app N6 N7q
  refine own_st st7 ?_
  show own_Fin p e below _ (T7.setTop (mkF m 38 #[.val (.ref w_FALSE), .unset, .val (.ref w_FALSE), .unset] [(.ref w_TRUE)]))
  refine own_st (fun t k => XS.astoreN X7.here hx rfl (hb hby d2_38) rfl rfl (l' := #[.val (.ref w_FALSE), .val (.ref w_TRUE), .val (.ref w_FALSE), .unset]) rfl k) ?_
  show own_Fin p e below _ (T7.setTop (mkF m 39 #[.val (.ref w_FALSE), .val (.ref w_TRUE), .val (.ref w_FALSE), .unset] []))
  refine own_st (fun t k => XS.goto X7.here hx rfl (pc0 := 39) (pc' := 96) rfl (hb hby d2_39) (by decide) (by decide) k) ?_
  show own_Fin p e below _ (T7.setTop (mkF m 96 #[.val (.ref w_FALSE), .val (.ref w_TRUE), .val (.ref w_FALSE), .unset] []))
  refine own_st (fun t k => XS.aloadN X7.here hx rfl (hb hby d2_96) rfl rfl k) ?_
  show own_Fin p e below _ (T7.setTop (mkF m 97 #[.val (.ref w_FALSE), .val (.ref w_TRUE), .val (.ref w_FALSE), .unset] [(.ref w_TRUE)]))
  obtain ⟨fs, hr, hrun, hended, hW, hsame⟩ := X7.leave (v := some (.ref w_TRUE)) (fun h => by rw [Bd.returns] at h; cases h)
  exact ⟨_, _, retOut X7 hx (t := (.object "com/example/loopwright/loopwright/solver/Term")) Bd.returns rfl (Or.inr (Or.inr (Or.inr (Or.inr ⟨rfl, rfl, rfl⟩)))) (hb hby d2_97) hr, hrun, hended, _, _, rfl, ⟨rfl, N7, e7⟩, ⟨_, rfl⟩, hW, hsame.mono (by decide) (by decide)⟩
theorem pd__Lcom_example_loopwright_loopwright_solver_Term__Lcom_example_loopwright_loopwright_solver_Term_ : parseMethodDescriptor "(Lcom/example/loopwright/loopwright/solver/Term;)Lcom/example/loopwright/loopwright/solver/Term;" = some ⟨[(.object "com/example/loopwright/loopwright/solver/Term")], some (.object "com/example/loopwright/loopwright/solver/Term")⟩ := by decide +kernel
theorem ef_0_I (m : MethodId) (x0 : Int32) : entryFrame m #[(.int x0)] maxLocals = mkF m 0 #[.val (.int x0), .unset, .unset, .unset, .unset, .unset, .unset] [] := by first | (simp [entryFrame, mkF, argsToLocals, Value.category, maxLocals]; done) | rfl
theorem pn_com_example_loopwright_loopwright_solver_TermBoolPinLaw : plainName "com/example/loopwright/loopwright/solver/TermBoolPinLaw" = true := by first | (simp [plainName, overriddenIn]; done) | decide +kernel
set_option maxRecDepth 65536 in
set_option maxHeartbeats 40000000 in
theorem rm0_c0 (l : Launch) (Z : State) (a0 : Array Value) (hw : ∀ d ∈ tables_1, d.before a0 Z = true) (ws : List Jvm.Cond) (w_FALSE w_TRUE w_BOOL w_FALSE_value w_TRUE_value : Addr) (p0 : Int32) (h0 : Heap) (n0 : Nat) (PN : own_Pins Z h0 w_FALSE w_TRUE w_BOOL w_FALSE_value w_TRUE_value) (q0 : (p0 &&& (1 : Int32)) = (0 : Int32)) :
    MetFree l x (head1 (Jvm.Cond.code x code maxLocals ret :: ws) room_1) (fun a U => a = #[(.int p0)] ∧ Z.Warmed39 U.vm ∧ U.heap = h0) (fun _ _ _ _ _ => True) (fun _ U o U' => ∃ v L, o = .returned v ∧ own_Q h0 n0 (some (.int (1 : Int32))) v U'.heap L ∧ FrameEnd U o U' L room_1.cells room_1.slots) := by
  obtain ⟨S_FALSE, E_FALSE, S_TRUE, E_TRUE, S_BOOL, E_BOOL, F_FALSE_value, E_FALSE_value, F_TRUE_value, E_TRUE_value, F_FALSE_sort, F_FALSE_value_signum, D_FALSE_TRUE, F_TRUE_sort, F_TRUE_value_signum⟩ := PN
  refine MetFree.of_bodySF (plainFor_of_name pn_com_example_loopwright_loopwright_solver_TermBoolPinLaw) hisR ?_
  intro p e s m args below meth c s₁ Bd hml0 hP hK
  obtain ⟨rfl, hZ, hh⟩ := hP
  have hx := Bd.exec
  have hby := Bd.bytes
  have hml : c.maxLocals = 7 := hml0
  have hown : s.vm.findClass "com/example/loopwright/loopwright/solver/TermBoolPinLaw" = some m.cls := findClass_of_methodNamed Bd.named
  have X0 : Stand p l e room_1 s m #[(.int p0)] below meth c s₁ [] 0 0 := Stand.of_body Bd
  have e0 : s₁.heap = h0 := by rw [← hh, Bd.state]; rfl
  have N0 := Fr.nil n0
  refine (?_ : own_Fin p e below _ _)
  refine own_st (fun t k => castTop (ef_0_I m p0) k) ?_
  show own_Fin p e below _ (s₁.setTop (mkF m 0 #[.val (.int p0), .unset, .unset, .unset, .unset, .unset, .unset] []))
  refine own_st (fun t k => XS.iloadN X0.here hx rfl (hb hby at_0) rfl k) ?_
  show own_Fin p e below _ (s₁.setTop (mkF m 1 #[.val (.int p0), .unset, .unset, .unset, .unset, .unset, .unset] [(.int p0)]))
  refine own_st (fun t k => XS.iconst X0.here hx rfl (hb hby at_1) k) ?_
  show own_Fin p e below _ (s₁.setTop (mkF m 2 #[.val (.int p0), .unset, .unset, .unset, .unset, .unset, .unset] [(.int (1 : Int32)), (.int p0)]))
  refine own_st (fun t k => XS.iand X0.here hx rfl (hb hby at_2) rfl k) ?_
  show own_Fin p e below _ (s₁.setTop (mkF m 3 #[.val (.int p0), .unset, .unset, .unset, .unset, .unset, .unset] [(.int (p0 &&& (1 : Int32)))]))
  rw [q0]
  show own_Fin p e below _ (s₁.setTop (mkF m 3 #[.val (.int p0), .unset, .unset, .unset, .unset, .unset, .unset] [(.int (0 : Int32))]))
  refine own_st (fun t k => XS.ifYes X0.here hx rfl (pc0 := 3) (pc' := 10) rfl (hb hby at_3) rfl (by decide) (by decide) (by decide) k) ?_
  show own_Fin p e below _ (s₁.setTop (mkF m 10 #[.val (.int p0), .unset, .unset, .unset, .unset, .unset, .unset] []))
  refine own_st (fun t k => XS.iconst X0.here hx rfl (hb hby at_10) k) ?_
  show own_Fin p e below _ (s₁.setTop (mkF m 11 #[.val (.int p0), .unset, .unset, .unset, .unset, .unset, .unset] [(.int (0 : Int32))]))
  refine own_st (fun t k => XS.istoreN X0.here hx rfl (hb hby at_11) rfl (l' := #[.val (.int p0), .val (.int (0 : Int32)), .unset, .unset, .unset, .unset, .unset]) rfl k) ?_
  show own_Fin p e below _ (s₁.setTop (mkF m 12 #[.val (.int p0), .val (.int (0 : Int32)), .unset, .unset, .unset, .unset, .unset] []))
  refine own_st (fun t k => XS.iloadN X0.here hx rfl (hb hby at_12) rfl k) ?_
  show own_Fin p e below _ (s₁.setTop (mkF m 13 #[.val (.int p0), .val (.int (0 : Int32)), .unset, .unset, .unset, .unset, .unset] [(.int (0 : Int32))]))
  refine own_st (fun t k => XS.ifYes X0.here hx rfl (pc0 := 13) (pc' := 22) rfl (hb hby at_13) rfl (by decide) (by decide) (by decide) k) ?_
  show own_Fin p e below _ (s₁.setTop (mkF m 22 #[.val (.int p0), .val (.int (0 : Int32)), .unset, .unset, .unset, .unset, .unset] []))
  obtain ⟨T1, X1, e1, st1⟩ := getS2 X0 hx hZ hown (host := "") (Or.inl (hw _ (List.mem_of_getElem? (i := 0) rfl))) Via.refl e0 S_FALSE (g := (mkF m 22 #[.val (.int p0), .val (.int (0 : Int32)), .unset, .unset, .unset, .unset, .unset] [])) rfl (hb hby at_22)
  refine own_st st1 ?_
  show own_Fin p e below _ (T1.setTop (mkF m 25 #[.val (.int p0), .val (.int (0 : Int32)), .unset, .unset, .unset, .unset, .unset] [(.ref w_FALSE)]))
  refine own_st (fun t k => XS.astoreN X1.here hx rfl (hb hby at_25) rfl rfl (l' := #[.val (.int p0), .val (.int (0 : Int32)), .val (.ref w_FALSE), .unset, .unset, .unset, .unset]) rfl k) ?_
  show own_Fin p e below _ (T1.setTop (mkF m 26 #[.val (.int p0), .val (.int (0 : Int32)), .val (.ref w_FALSE), .unset, .unset, .unset, .unset] []))
  refine own_st (fun t k => XS.iloadN X1.here hx rfl (hb hby at_26) rfl k) ?_
  show own_Fin p e below _ (T1.setTop (mkF m 27 #[.val (.int p0), .val (.int (0 : Int32)), .val (.ref w_FALSE), .unset, .unset, .unset, .unset] [(.int (0 : Int32))]))
  refine own_st (fun t k => XS.ifYes X1.here hx rfl (pc0 := 27) (pc' := 36) rfl (hb hby at_27) rfl (by decide) (by decide) (by decide) k) ?_
  show own_Fin p e below _ (T1.setTop (mkF m 36 #[.val (.int p0), .val (.int (0 : Int32)), .val (.ref w_FALSE), .unset, .unset, .unset, .unset] []))
  obtain ⟨T2, X2, e2, st2⟩ := getS2 X1 hx hZ hown (host := "") (Or.inl (hw _ (List.mem_of_getElem? (i := 3) rfl))) Via.refl e1 S_TRUE (g := (mkF m 36 #[.val (.int p0), .val (.int (0 : Int32)), .val (.ref w_FALSE), .unset, .unset, .unset, .unset] [])) rfl (hb hby at_36)
  refine own_st st2 ?_
  show own_Fin p e below _ (T2.setTop (mkF m 39 #[.val (.int p0), .val (.int (0 : Int32)), .val (.ref w_FALSE), .unset, .unset, .unset, .unset] [(.ref w_TRUE)]))
  refine own_st (fun t k => XS.astoreN X2.here hx rfl (hb hby at_39) rfl rfl (l' := #[.val (.int p0), .val (.int (0 : Int32)), .val (.ref w_FALSE), .val (.ref w_TRUE), .unset, .unset, .unset]) rfl k) ?_
  show own_Fin p e below _ (T2.setTop (mkF m 40 #[.val (.int p0), .val (.int (0 : Int32)), .val (.ref w_FALSE), .val (.ref w_TRUE), .unset, .unset, .unset] []))
  refine own_st (fun t k => XS.iloadN X2.here hx rfl (hb hby at_40) rfl k) ?_
  show own_Fin p e below _ (T2.setTop (mkF m 41 #[.val (.int p0), .val (.int (0 : Int32)), .val (.ref w_FALSE), .val (.ref w_TRUE), .unset, .unset, .unset] [(.int (0 : Int32))]))
  obtain ⟨_, _, ⟨T3, L3, k3, n3⟩, -, X3, ⟨Lc3, hQ3, l3, y3, z3⟩, st3⟩ := Jvm.LawKit.callS X2 hx (y := (⟨"com/example/loopwright/loopwright/solver/Term", "bool", "(Z)Lcom/example/loopwright/loopwright/solver/Term;"⟩ : MethodName)) hown (mvT hZ (hw _ (List.mem_of_getElem? (i := 5) rfl))) (mvT hZ (hw _ (List.mem_of_getElem? (i := 6) rfl))) (mvT hZ (hw _ (List.mem_of_getElem? (i := 1) rfl))) (mvT hZ (hw _ (List.mem_of_getElem? (i := 7) rfl))) (by decide) (backOf (W := 0) (rm1_0 l Z a0 hw [] w_FALSE w_TRUE w_BOOL w_FALSE_value w_TRUE_value h0 n0 (by exact ⟨S_FALSE, E_FALSE, S_TRUE, E_TRUE, S_BOOL, E_BOOL, F_FALSE_value, E_FALSE_value, F_TRUE_value, E_TRUE_value, F_FALSE_sort, F_FALSE_value_signum, D_FALSE_TRUE, F_TRUE_sort, F_TRUE_value_signum⟩)) hZ (hw _ (List.mem_of_getElem? (i := 7) rfl)) (hw _ (List.mem_of_getElem? (i := 1) rfl)) (by decide) (by decide)) (g := (mkF m 41 #[.val (.int p0), .val (.int (0 : Int32)), .val (.ref w_FALSE), .val (.ref w_TRUE), .unset, .unset, .unset] [(.int (0 : Int32))])) rfl (by rw [hml]; rfl) (argsL := [(.int (0 : Int32))]) (rest := []) (lenOf pd__Z_Lcom_example_loopwright_loopwright_solver_Term_ rfl) rfl (by show 2 * 0 + _ ≤ _; exact Nat.le_of_eq rfl) (hb hby at_41) (fun _ _ => ⟨rfl, e2, (by decide : 0 + 0 ≤ _), (by decide : 0 + 0 ≤ _)⟩)
  dsimp only [Pt.U, Pt.locs, Pt.cells, Pt.slots] at X3 l3 y3 z3 st3 hQ3
  subst l3 y3 z3
  obtain ⟨rfl, N3q, e3⟩ := hQ3
  have N3 := Fr.app N0 N3q
  refine own_st st3 ?_
  show own_Fin p e below _ (T3.setTop (mkF m 44 #[.val (.int p0), .val (.int (0 : Int32)), .val (.ref w_FALSE), .val (.ref w_TRUE), .unset, .unset, .unset] [(.ref w_FALSE)]))
  refine own_st (fun t k => XS.astore X3.here hx rfl (hb hby at_44) rfl rfl (l' := #[.val (.int p0), .val (.int (0 : Int32)), .val (.ref w_FALSE), .val (.ref w_TRUE), .val (.ref w_FALSE), .unset, .unset]) rfl k) ?_
  show own_Fin p e below _ (T3.setTop (mkF m 46 #[.val (.int p0), .val (.int (0 : Int32)), .val (.ref w_FALSE), .val (.ref w_TRUE), .val (.ref w_FALSE), .unset, .unset] []))
  refine own_st (fun t k => XS.iloadN X3.here hx rfl (hb hby at_46) rfl k) ?_
  show own_Fin p e below _ (T3.setTop (mkF m 47 #[.val (.int p0), .val (.int (0 : Int32)), .val (.ref w_FALSE), .val (.ref w_TRUE), .val (.ref w_FALSE), .unset, .unset] [(.int (0 : Int32))]))
  refine own_st (fun t k => XS.ifNo X3.here hx rfl (hb hby at_47) rfl (by decide) k) ?_
  show own_Fin p e below _ (T3.setTop (mkF m 50 #[.val (.int p0), .val (.int (0 : Int32)), .val (.ref w_FALSE), .val (.ref w_TRUE), .val (.ref w_FALSE), .unset, .unset] []))
  refine own_st (fun t k => XS.iconst X3.here hx rfl (hb hby at_50) k) ?_
  show own_Fin p e below _ (T3.setTop (mkF m 51 #[.val (.int p0), .val (.int (0 : Int32)), .val (.ref w_FALSE), .val (.ref w_TRUE), .val (.ref w_FALSE), .unset, .unset] [(.int (1 : Int32))]))
  refine own_st (fun t k => XS.goto X3.here hx rfl (pc0 := 51) (pc' := 55) rfl (hb hby at_51) (by decide) (by decide) k) ?_
  show own_Fin p e below _ (T3.setTop (mkF m 55 #[.val (.int p0), .val (.int (0 : Int32)), .val (.ref w_FALSE), .val (.ref w_TRUE), .val (.ref w_FALSE), .unset, .unset] [(.int (1 : Int32))]))
  obtain ⟨_, _, ⟨T4, L4, k4, n4⟩, -, X4, ⟨Lc4, hQ4, l4, y4, z4⟩, st4⟩ := Jvm.LawKit.callS X3 hx (y := (⟨"com/example/loopwright/loopwright/solver/Term", "bool", "(Z)Lcom/example/loopwright/loopwright/solver/Term;"⟩ : MethodName)) hown (mvT hZ (hw _ (List.mem_of_getElem? (i := 5) rfl))) (mvT hZ (hw _ (List.mem_of_getElem? (i := 6) rfl))) (mvT hZ (hw _ (List.mem_of_getElem? (i := 1) rfl))) (mvT hZ (hw _ (List.mem_of_getElem? (i := 7) rfl))) (by decide) (backOf (W := 0) (rm1_1 l Z a0 hw [] w_FALSE w_TRUE w_BOOL w_FALSE_value w_TRUE_value h0 n0 (by exact ⟨S_FALSE, E_FALSE, S_TRUE, E_TRUE, S_BOOL, E_BOOL, F_FALSE_value, E_FALSE_value, F_TRUE_value, E_TRUE_value, F_FALSE_sort, F_FALSE_value_signum, D_FALSE_TRUE, F_TRUE_sort, F_TRUE_value_signum⟩)) hZ (hw _ (List.mem_of_getElem? (i := 7) rfl)) (hw _ (List.mem_of_getElem? (i := 1) rfl)) (by decide) (by decide)) (g := (mkF m 55 #[.val (.int p0), .val (.int (0 : Int32)), .val (.ref w_FALSE), .val (.ref w_TRUE), .val (.ref w_FALSE), .unset, .unset] [(.int (1 : Int32))])) rfl (by rw [hml]; rfl) (argsL := [(.int (1 : Int32))]) (rest := []) (lenOf pd__Z_Lcom_example_loopwright_loopwright_solver_Term_ rfl) rfl (by show 2 * 0 + _ ≤ _; exact Nat.le_of_eq rfl) (hb hby at_55) (fun _ _ => ⟨rfl, e3, (by decide : 0 + 0 ≤ _), (by decide : 0 + 0 ≤ _)⟩)
  dsimp only [Pt.U, Pt.locs, Pt.cells, Pt.slots] at X4 l4 y4 z4 st4 hQ4
  subst l4 y4 z4
  obtain ⟨rfl, N4q, e4⟩ := hQ4
  have N4 := Fr.app N3 N4q
  refine own_st st4 ?_
  show own_Fin p e below _ (T4.setTop (mkF m 58 #[.val (.int p0), .val (.int (0 : Int32)), .val (.ref w_FALSE), .val (.ref w_TRUE), .val (.ref w_FALSE), .unset, .unset] [(.ref w_TRUE)]))
  refine own_st (fun t k => XS.astore X4.here hx rfl (hb hby at_58) rfl rfl (l' := #[.val (.int p0), .val (.int (0 : Int32)), .val (.ref w_FALSE), .val (.ref w_TRUE), .val (.ref w_FALSE), .val (.ref w_TRUE), .unset]) rfl k) ?_
  show own_Fin p e below _ (T4.setTop (mkF m 60 #[.val (.int p0), .val (.int (0 : Int32)), .val (.ref w_FALSE), .val (.ref w_TRUE), .val (.ref w_FALSE), .val (.ref w_TRUE), .unset] []))
  refine own_st (fun t k => XS.aload X4.here hx rfl (hb hby at_60) rfl rfl k) ?_
  show own_Fin p e below _ (T4.setTop (mkF m 62 #[.val (.int p0), .val (.int (0 : Int32)), .val (.ref w_FALSE), .val (.ref w_TRUE), .val (.ref w_FALSE), .val (.ref w_TRUE), .unset] [(.ref w_FALSE)]))
  obtain ⟨_, _, ⟨T5, L5, k5, n5⟩, -, X5, ⟨Lc5, hQ5, l5, y5, z5⟩, st5⟩ := Jvm.LawKit.callS X4 hx (y := (⟨"com/example/loopwright/loopwright/solver/Term", "not", "(Lcom/example/loopwright/loopwright/solver/Term;)Lcom/example/loopwright/loopwright/solver/Term;"⟩ : MethodName)) hown (mvT hZ (hw _ (List.mem_of_getElem? (i := 10) rfl))) (mvT hZ (hw _ (List.mem_of_getElem? (i := 11) rfl))) (mvT hZ (hw _ (List.mem_of_getElem? (i := 1) rfl))) (mvT hZ (hw _ (List.mem_of_getElem? (i := 12) rfl))) (by decide) (backOf (W := 0) (rm2_w_FALSE l Z a0 hw [] w_FALSE w_TRUE w_BOOL w_FALSE_value w_TRUE_value h0 n0 (by exact ⟨S_FALSE, E_FALSE, S_TRUE, E_TRUE, S_BOOL, E_BOOL, F_FALSE_value, E_FALSE_value, F_TRUE_value, E_TRUE_value, F_FALSE_sort, F_FALSE_value_signum, D_FALSE_TRUE, F_TRUE_sort, F_TRUE_value_signum⟩)) hZ (hw _ (List.mem_of_getElem? (i := 12) rfl)) (hw _ (List.mem_of_getElem? (i := 1) rfl)) (by decide) (by decide)) (g := (mkF m 62 #[.val (.int p0), .val (.int (0 : Int32)), .val (.ref w_FALSE), .val (.ref w_TRUE), .val (.ref w_FALSE), .val (.ref w_TRUE), .unset] [(.ref w_FALSE)])) rfl (by rw [hml]; rfl) (argsL := [(.ref w_FALSE)]) (rest := []) (lenOf pd__Lcom_example_loopwright_loopwright_solver_Term__Lcom_example_loopwright_loopwright_solver_Term_ rfl) rfl (by show 2 * 0 + _ ≤ _; exact Nat.le_of_eq rfl) (hb hby at_62) (fun _ _ => ⟨rfl, e4, (by decide : 0 + 0 ≤ _), (by decide : 0 + 0 ≤ _)⟩)
  dsimp only [Pt.U, Pt.locs, Pt.cells, Pt.slots] at X5 l5 y5 z5 st5 hQ5
  subst l5 y5 z5
  obtain ⟨rfl, N5q, e5⟩ := hQ5
  have N5 := Fr.app N4 N5q
  refine own_st st5 ?_
  show own_Fin p e below _ (T5.setTop (mkF m 65 #[.val (.int p0), .val (.int (0 : Int32)), .val (.ref w_FALSE), .val (.ref w_TRUE), .val (.ref w_FALSE), .val (.ref w_TRUE), .unset] [(.ref w_TRUE)]))
  refine own_st (fun t k => XS.astore X5.here hx rfl (hb hby at_65) rfl rfl (l' := #[.val (.int p0), .val (.int (0 : Int32)), .val (.ref w_FALSE), .val (.ref w_TRUE), .val (.ref w_FALSE), .val (.ref w_TRUE), .val (.ref w_TRUE)]) rfl k) ?_
  show own_Fin p e below _ (T5.setTop (mkF m 67 #[.val (.int p0), .val (.int (0 : Int32)), .val (.ref w_FALSE), .val (.ref w_TRUE), .val (.ref w_FALSE), .val (.ref w_TRUE), .val (.ref w_TRUE)] []))
  refine own_st (fun t k => XS.aload X5.here hx rfl (hb hby at_67) rfl rfl k) ?_
  show own_Fin p e below _ (T5.setTop (mkF m 69 #[.val (.int p0), .val (.int (0 : Int32)), .val (.ref w_FALSE), .val (.ref w_TRUE), .val (.ref w_FALSE), .val (.ref w_TRUE), .val (.ref w_TRUE)] [(.ref w_FALSE)]))
  refine own_st (fun t k => XS.aloadN X5.here hx rfl (hb hby at_69) rfl rfl k) ?_
  show own_Fin p e below _ (T5.setTop (mkF m 70 #[.val (.int p0), .val (.int (0 : Int32)), .val (.ref w_FALSE), .val (.ref w_TRUE), .val (.ref w_FALSE), .val (.ref w_TRUE), .val (.ref w_TRUE)] [(.ref w_FALSE), (.ref w_FALSE)]))
  refine own_st (fun t k => Jvm.RoadKit.acmp (g := (mkF m 70 #[.val (.int p0), .val (.int (0 : Int32)), .val (.ref w_FALSE), .val (.ref w_TRUE), .val (.ref w_FALSE), .val (.ref w_TRUE), .val (.ref w_TRUE)] [(.ref w_FALSE), (.ref w_FALSE)])) X5 hx rfl rfl rfl (pc0 := 70) (pc' := 73) (same := true) rfl (hb hby at_70) rfl (decide_eq_true rfl) (by decide) (by decide) k) ?_
  show own_Fin p e below _ (T5.setTop (mkF m 73 #[.val (.int p0), .val (.int (0 : Int32)), .val (.ref w_FALSE), .val (.ref w_TRUE), .val (.ref w_FALSE), .val (.ref w_TRUE), .val (.ref w_TRUE)] []))
  refine own_st (fun t k => XS.aload X5.here hx rfl (hb hby at_73) rfl rfl k) ?_
  show own_Fin p e below _ (T5.setTop (mkF m 75 #[.val (.int p0), .val (.int (0 : Int32)), .val (.ref w_FALSE), .val (.ref w_TRUE), .val (.ref w_FALSE), .val (.ref w_TRUE), .val (.ref w_TRUE)] [(.ref w_FALSE)]))
  refine own_st (fun t k => XS.aloadN X5.here hx rfl (hb hby at_75) rfl rfl k) ?_
  show own_Fin p e below _ (T5.setTop (mkF m 76 #[.val (.int p0), .val (.int (0 : Int32)), .val (.ref w_FALSE), .val (.ref w_TRUE), .val (.ref w_FALSE), .val (.ref w_TRUE), .val (.ref w_TRUE)] [(.ref w_TRUE), (.ref w_FALSE)]))
  refine own_st (fun t k => Jvm.RoadKit.acmp (g := (mkF m 76 #[.val (.int p0), .val (.int (0 : Int32)), .val (.ref w_FALSE), .val (.ref w_TRUE), .val (.ref w_FALSE), .val (.ref w_TRUE), .val (.ref w_TRUE)] [(.ref w_TRUE), (.ref w_FALSE)])) X5 hx rfl rfl rfl (pc0 := 76) (pc' := 79) (same := false) rfl (hb hby at_76) rfl (decide_eq_false fun q => D_FALSE_TRUE (Value.ref.inj q)) (by decide) (by decide) k) ?_
  show own_Fin p e below _ (T5.setTop (mkF m 79 #[.val (.int p0), .val (.int (0 : Int32)), .val (.ref w_FALSE), .val (.ref w_TRUE), .val (.ref w_FALSE), .val (.ref w_TRUE), .val (.ref w_TRUE)] []))
  refine own_st (fun t k => XS.aload X5.here hx rfl (hb hby at_79) rfl rfl k) ?_
  show own_Fin p e below _ (T5.setTop (mkF m 81 #[.val (.int p0), .val (.int (0 : Int32)), .val (.ref w_FALSE), .val (.ref w_TRUE), .val (.ref w_FALSE), .val (.ref w_TRUE), .val (.ref w_TRUE)] [(.ref w_FALSE)]))
  obtain ⟨cq6, kq6, q6a, q6b, q6c⟩ := isOf hZ e5 E_FALSE
  obtain ⟨_, _, ⟨T6, L6, k6, n6⟩, -, X6, ⟨Lc6, hQ6, l6, y6, z6⟩, st6⟩ := X5.interfaceBack hx (xi := (⟨"com/example/loopwright/loopwright/solver/Term", "sort", "()Lcom/example/loopwright/loopwright/solver/Sort;"⟩ : MethodName)) (y := (⟨"com/example/loopwright/loopwright/solver/Term$Constant", "sort", "()Lcom/example/loopwright/loopwright/solver/Sort;"⟩ : MethodName)) hown (mvT hZ (hw _ (List.mem_of_getElem? (i := 49) rfl))) (mvT hZ (hw _ (List.mem_of_getElem? (i := 20) rfl))) (mvT hZ (hw _ (List.mem_of_getElem? (i := 21) rfl))) (mvT hZ (hw _ (List.mem_of_getElem? (i := 22) rfl))) (mvT hZ (hw _ (List.mem_of_getElem? (i := 23) rfl))) (mvT hZ (hw _ (List.mem_of_getElem? (i := 24) rfl))) (mvT hZ (hw _ (List.mem_of_getElem? (i := 25) rfl))) (mvT hZ (hw _ (List.mem_of_getElem? (i := 26) rfl))) (by decide) (backOf (W := 0) (rm4_w_FALSE l Z a0 hw [] w_FALSE w_TRUE w_BOOL w_FALSE_value w_TRUE_value h0 n0 (by exact ⟨S_FALSE, E_FALSE, S_TRUE, E_TRUE, S_BOOL, E_BOOL, F_FALSE_value, E_FALSE_value, F_TRUE_value, E_TRUE_value, F_FALSE_sort, F_FALSE_value_signum, D_FALSE_TRUE, F_TRUE_sort, F_TRUE_value_signum⟩)) hZ (hw _ (List.mem_of_getElem? (i := 28) rfl)) (hw _ (List.mem_of_getElem? (i := 27) rfl)) (by decide) (by decide)) q6a q6b q6c (g := (mkF m 81 #[.val (.int p0), .val (.int (0 : Int32)), .val (.ref w_FALSE), .val (.ref w_TRUE), .val (.ref w_FALSE), .val (.ref w_TRUE), .val (.ref w_TRUE)] [(.ref w_FALSE)])) rfl (by rw [hml]; rfl) (Steps.refl _) (argsL := []) (rest := []) (lenOf pd___Lcom_example_loopwright_loopwright_solver_Sort_ rfl) rfl (by show 2 * 0 + _ ≤ _; exact Nat.le_of_eq rfl) (hb hby at_81) (fun _ _ => ⟨rfl, e5, (by decide : 0 + 0 ≤ _), (by decide : 0 + 0 ≤ _)⟩)
  dsimp only [Pt.U, Pt.locs, Pt.cells, Pt.slots] at X6 l6 y6 z6 st6 hQ6
  subst l6 y6 z6
  obtain ⟨rfl, N6q, e6⟩ := hQ6
  have N6 := Fr.app N5 N6q
  refine own_tr st6 ?_
  show own_Fin p e below _ (T6.setTop (mkF m 86 #[.val (.int p0), .val (.int (0 : Int32)), .val (.ref w_FALSE), .val (.ref w_TRUE), .val (.ref w_FALSE), .val (.ref w_TRUE), .val (.ref w_TRUE)] [(.ref w_BOOL)]))
  obtain ⟨T7, X7, e7, st7⟩ := getS2 X6 hx hZ hown (host := "") (Or.inl (hw _ (List.mem_of_getElem? (i := 50) rfl))) Via.refl e6 S_BOOL (g := (mkF m 86 #[.val (.int p0), .val (.int (0 : Int32)), .val (.ref w_FALSE), .val (.ref w_TRUE), .val (.ref w_FALSE), .val (.ref w_TRUE), .val (.ref w_TRUE)] [(.ref w_BOOL)])) rfl (hb hby at_86)
  refine own_st st7 ?_
  show own_Fin p e below _ (T7.setTop (mkF m 89 #[.val (.int p0), .val (.int (0 : Int32)), .val (.ref w_FALSE), .val (.ref w_TRUE), .val (.ref w_FALSE), .val (.ref w_TRUE), .val (.ref w_TRUE)] [(.ref w_BOOL), (.ref w_BOOL)]))
  refine own_st (fun t k => Jvm.RoadKit.acmp (g := (mkF m 89 #[.val (.int p0), .val (.int (0 : Int32)), .val (.ref w_FALSE), .val (.ref w_TRUE), .val (.ref w_FALSE), .val (.ref w_TRUE), .val (.ref w_TRUE)] [(.ref w_BOOL), (.ref w_BOOL)])) X7 hx rfl rfl rfl (pc0 := 89) (pc' := 92) (same := true) rfl (hb hby at_89) rfl (decide_eq_true rfl) (by decide) (by decide) k) ?_
  show own_Fin p e below _ (T7.setTop (mkF m 92 #[.val (.int p0), .val (.int (0 : Int32)), .val (.ref w_FALSE), .val (.ref w_TRUE), .val (.ref w_FALSE), .val (.ref w_TRUE), .val (.ref w_TRUE)] []))
  refine own_st (fun t k => XS.aload X7.here hx rfl (hb hby at_92) rfl rfl k) ?_
  show own_Fin p e below _ (T7.setTop (mkF m 94 #[.val (.int p0), .val (.int (0 : Int32)), .val (.ref w_FALSE), .val (.ref w_TRUE), .val (.ref w_FALSE), .val (.ref w_TRUE), .val (.ref w_TRUE)] [(.ref w_TRUE)]))
  refine own_st (fun t k => XS.aloadN X7.here hx rfl (hb hby at_94) rfl rfl k) ?_
  show own_Fin p e below _ (T7.setTop (mkF m 95 #[.val (.int p0), .val (.int (0 : Int32)), .val (.ref w_FALSE), .val (.ref w_TRUE), .val (.ref w_FALSE), .val (.ref w_TRUE), .val (.ref w_TRUE)] [(.ref w_TRUE), (.ref w_TRUE)]))
  refine own_st (fun t k => Jvm.RoadKit.acmp (g := (mkF m 95 #[.val (.int p0), .val (.int (0 : Int32)), .val (.ref w_FALSE), .val (.ref w_TRUE), .val (.ref w_FALSE), .val (.ref w_TRUE), .val (.ref w_TRUE)] [(.ref w_TRUE), (.ref w_TRUE)])) X7 hx rfl rfl rfl (pc0 := 95) (pc' := 98) (same := true) rfl (hb hby at_95) rfl (decide_eq_true rfl) (by decide) (by decide) k) ?_
  show own_Fin p e below _ (T7.setTop (mkF m 98 #[.val (.int p0), .val (.int (0 : Int32)), .val (.ref w_FALSE), .val (.ref w_TRUE), .val (.ref w_FALSE), .val (.ref w_TRUE), .val (.ref w_TRUE)] []))
  refine own_st (fun t k => XS.aload X7.here hx rfl (hb hby at_98) rfl rfl k) ?_
  show own_Fin p e below _ (T7.setTop (mkF m 100 #[.val (.int p0), .val (.int (0 : Int32)), .val (.ref w_FALSE), .val (.ref w_TRUE), .val (.ref w_FALSE), .val (.ref w_TRUE), .val (.ref w_TRUE)] [(.ref w_TRUE)]))
  refine own_st (fun t k => XS.aloadN X7.here hx rfl (hb hby at_100) rfl rfl k) ?_
  show own_Fin p e below _ (T7.setTop (mkF m 101 #[.val (.int p0), .val (.int (0 : Int32)), .val (.ref w_FALSE), .val (.ref w_TRUE), .val (.ref w_FALSE), .val (.ref w_TRUE), .val (.ref w_TRUE)] [(.ref w_TRUE), (.ref w_TRUE)]))
  refine own_st (fun t k => Jvm.RoadKit.acmp (g := (mkF m 101 #[.val (.int p0), .val (.int (0 : Int32)), .val (.ref w_FALSE), .val (.ref w_TRUE), .val (.ref w_FALSE), .val (.ref w_TRUE), .val (.ref w_TRUE)] [(.ref w_TRUE), (.ref w_TRUE)])) X7 hx rfl rfl rfl (pc0 := 101) (pc' := 104) (same := true) rfl (hb hby at_101) rfl (decide_eq_true rfl) (by decide) (by decide) k) ?_
  show own_Fin p e below _ (T7.setTop (mkF m 104 #[.val (.int p0), .val (.int (0 : Int32)), .val (.ref w_FALSE), .val (.ref w_TRUE), .val (.ref w_FALSE), .val (.ref w_TRUE), .val (.ref w_TRUE)] []))
  refine own_st (fun t k => XS.iconst X7.here hx rfl (hb hby at_104) k) ?_
  show own_Fin p e below _ (T7.setTop (mkF m 105 #[.val (.int p0), .val (.int (0 : Int32)), .val (.ref w_FALSE), .val (.ref w_TRUE), .val (.ref w_FALSE), .val (.ref w_TRUE), .val (.ref w_TRUE)] [(.int (1 : Int32))]))
  refine own_st (fun t k => XS.goto X7.here hx rfl (pc0 := 105) (pc' := 109) rfl (hb hby at_105) (by decide) (by decide) k) ?_
  show own_Fin p e below _ (T7.setTop (mkF m 109 #[.val (.int p0), .val (.int (0 : Int32)), .val (.ref w_FALSE), .val (.ref w_TRUE), .val (.ref w_FALSE), .val (.ref w_TRUE), .val (.ref w_TRUE)] [(.int (1 : Int32))]))
  obtain ⟨fs, hr, hrun, hended, hW, hsame⟩ := X7.leave (v := some (.int (1 : Int32))) (fun h => by rw [Bd.returns] at h; cases h)
  exact ⟨_, _, retN X7 hx (t := .boolean) Bd.returns (by simp) (hb hby at_109) hr, hrun, hended, _, _, rfl, ⟨rfl, N6, e7⟩, ⟨_, rfl⟩, hW, hsame.mono (by decide) (by decide)⟩
set_option maxRecDepth 65536 in
set_option maxHeartbeats 40000000 in
theorem rm4_w_TRUE (l : Launch) (Z : State) (a0 : Array Value) (hw : ∀ d ∈ tables_1, d.before a0 Z = true) (ws : List Jvm.Cond) (w_FALSE w_TRUE w_BOOL w_FALSE_value w_TRUE_value : Addr) (h0 : Heap) (n0 : Nat) (PN : own_Pins Z h0 w_FALSE w_TRUE w_BOOL w_FALSE_value w_TRUE_value) :
    MetFree l (⟨"com/example/loopwright/loopwright/solver/Term$Constant", "sort", "()Lcom/example/loopwright/loopwright/solver/Sort;"⟩ : MethodName) (head1 (Jvm.Cond.code (⟨"com/example/loopwright/loopwright/solver/Term$Constant", "sort", "()Lcom/example/loopwright/loopwright/solver/Sort;"⟩ : MethodName) prog_98_method_7_code 1 (some (.object "com/example/loopwright/loopwright/solver/Sort")) :: ws) ({ frames := 0, cells := 0, slots := 0, locals := 0 } : Room)) (fun a U => a = #[(.ref w_TRUE)] ∧ Z.Warmed39 U.vm ∧ U.heap = h0) (fun _ _ _ _ _ => True) (fun _ U o U' => ∃ v L, o = .returned v ∧ own_Q h0 n0 (some (.ref w_BOOL)) v U'.heap L ∧ FrameEnd U o U' L ({ frames := 0, cells := 0, slots := 0, locals := 0 } : Room).cells ({ frames := 0, cells := 0, slots := 0, locals := 0 } : Room).slots) := by
  obtain ⟨S_FALSE, E_FALSE, S_TRUE, E_TRUE, S_BOOL, E_BOOL, F_FALSE_value, E_FALSE_value, F_TRUE_value, E_TRUE_value, F_FALSE_sort, F_FALSE_value_signum, D_FALSE_TRUE, F_TRUE_sort, F_TRUE_value_signum⟩ := PN
  refine MetFree.of_bodySF (plainFor_of_name pn_com_example_loopwright_loopwright_solver_Term_Constant) hisR ?_
  intro p e s m args below meth c s₁ Bd hml0 hP hK
  obtain ⟨rfl, hZ, hh⟩ := hP
  have hx := Bd.exec
  have hby := Bd.bytes
  have hml : c.maxLocals = 1 := hml0
  have hown : s.vm.findClass "com/example/loopwright/loopwright/solver/Term$Constant" = some m.cls := findClass_of_methodNamed Bd.named
  have X0 : Stand p l e ({ frames := 0, cells := 0, slots := 0, locals := 0 } : Room) s m #[(.ref w_TRUE)] below meth c s₁ [] 0 0 := Stand.of_body Bd
  have e0 : s₁.heap = h0 := by rw [← hh, Bd.state]; rfl
  have N0 := Fr.nil n0
  refine (?_ : own_Fin p e below _ _)
  refine own_st (fun t k => castTop (ef_4_R m w_TRUE) k) ?_
  show own_Fin p e below _ (s₁.setTop (mkF m 0 #[.val (.ref w_TRUE)] []))
  refine own_st (fun t k => XS.aloadN X0.here hx rfl (hb hby d4_0) rfl rfl k) ?_
  show own_Fin p e below _ (s₁.setTop (mkF m 1 #[.val (.ref w_TRUE)] [(.ref w_TRUE)]))
  obtain ⟨T1, X1, e1, st1⟩ := getF X0 hx hZ hown (host := "") (Or.inl (hw _ (List.mem_of_getElem? (i := 29) rfl))) Via.refl e0 F_TRUE_sort (g := (mkF m 1 #[.val (.ref w_TRUE)] [(.ref w_TRUE)])) rfl rfl (hb hby d4_1)
  refine own_st st1 ?_
  show own_Fin p e below _ (T1.setTop (mkF m 4 #[.val (.ref w_TRUE)] [(.ref w_BOOL)]))
  obtain ⟨fs, hr, hrun, hended, hW, hsame⟩ := X1.leave (v := some (.ref w_BOOL)) (fun h => by rw [Bd.returns] at h; cases h)
  exact ⟨_, _, retOut X1 hx (t := (.object "com/example/loopwright/loopwright/solver/Sort")) Bd.returns rfl (Or.inr (Or.inr (Or.inr (Or.inr ⟨rfl, rfl, rfl⟩)))) (hb hby d4_4) hr, hrun, hended, _, _, rfl, ⟨rfl, N0, e1⟩, ⟨_, rfl⟩, hW, hsame.mono (by decide) (by decide)⟩
set_option maxRecDepth 65536 in
set_option maxHeartbeats 40000000 in
theorem rm3_w_BOOL_w_TRUE_w_TRUE (l : Launch) (Z : State) (a0 : Array Value) (hw : ∀ d ∈ tables_1, d.before a0 Z = true) (ws : List Jvm.Cond) (w_FALSE w_TRUE w_BOOL w_FALSE_value w_TRUE_value : Addr) (h0 : Heap) (n0 : Nat) (PN : own_Pins Z h0 w_FALSE w_TRUE w_BOOL w_FALSE_value w_TRUE_value) :
    MetFree l (⟨"com/example/loopwright/loopwright/solver/Term", "requireSort", "(Lcom/example/loopwright/loopwright/solver/Sort;Lcom/example/loopwright/loopwright/solver/Term;Lcom/example/loopwright/loopwright/solver/Term;)V"⟩ : MethodName) (head1 (Jvm.Cond.code (⟨"com/example/loopwright/loopwright/solver/Term", "requireSort", "(Lcom/example/loopwright/loopwright/solver/Sort;Lcom/example/loopwright/loopwright/solver/Term;Lcom/example/loopwright/loopwright/solver/Term;)V"⟩ : MethodName) prog_96_method_31_code 3 none :: ws) ({ frames := 1, cells := 0, slots := 0, locals := 12 } : Room)) (fun a U => a = #[(.ref w_BOOL), (.ref w_TRUE), (.ref w_TRUE)] ∧ Z.Warmed39 U.vm ∧ U.heap = h0) (fun _ _ _ _ _ => True) (fun _ U o U' => ∃ v L, o = .returned v ∧ own_Q h0 n0 none v U'.heap L ∧ FrameEnd U o U' L ({ frames := 1, cells := 0, slots := 0, locals := 12 } : Room).cells ({ frames := 1, cells := 0, slots := 0, locals := 12 } : Room).slots) := by
  obtain ⟨S_FALSE, E_FALSE, S_TRUE, E_TRUE, S_BOOL, E_BOOL, F_FALSE_value, E_FALSE_value, F_TRUE_value, E_TRUE_value, F_FALSE_sort, F_FALSE_value_signum, D_FALSE_TRUE, F_TRUE_sort, F_TRUE_value_signum⟩ := PN
  refine MetFree.of_bodySF (plainFor_of_name pn_com_example_loopwright_loopwright_solver_Term) hisR ?_
  intro p e s m args below meth c s₁ Bd hml0 hP hK
  obtain ⟨rfl, hZ, hh⟩ := hP
  have hx := Bd.exec
  have hby := Bd.bytes
  have hml : c.maxLocals = 3 := hml0
  have hown : s.vm.findClass "com/example/loopwright/loopwright/solver/Term" = some m.cls := findClass_of_methodNamed Bd.named
  have X0 : Stand p l e ({ frames := 1, cells := 0, slots := 0, locals := 12 } : Room) s m #[(.ref w_BOOL), (.ref w_TRUE), (.ref w_TRUE)] below meth c s₁ [] 0 0 := Stand.of_body Bd
  have e0 : s₁.heap = h0 := by rw [← hh, Bd.state]; rfl
  have N0 := Fr.nil n0
  refine (?_ : own_Fin p e below _ _)
  refine own_st (fun t k => castTop (ef_3_RRR m w_BOOL w_TRUE w_TRUE) k) ?_
  show own_Fin p e below _ (s₁.setTop (mkF m 0 #[.val (.ref w_BOOL), .val (.ref w_TRUE), .val (.ref w_TRUE)] []))
  refine own_st (fun t k => XS.aloadN X0.here hx rfl (hb hby d3_0) rfl rfl k) ?_
  show own_Fin p e below _ (s₁.setTop (mkF m 1 #[.val (.ref w_BOOL), .val (.ref w_TRUE), .val (.ref w_TRUE)] [(.ref w_TRUE)]))
  obtain ⟨cq1, kq1, q1a, q1b, q1c⟩ := isOf hZ e0 E_TRUE
  obtain ⟨_, _, ⟨T1, L1, k1, n1⟩, -, X1, ⟨Lc1, hQ1, l1, y1, z1⟩, st1⟩ := X0.interfaceBack hx (xi := (⟨"com/example/loopwright/loopwright/solver/Term", "sort", "()Lcom/example/loopwright/loopwright/solver/Sort;"⟩ : MethodName)) (y := (⟨"com/example/loopwright/loopwright/solver/Term$Constant", "sort", "()Lcom/example/loopwright/loopwright/solver/Sort;"⟩ : MethodName)) hown (mvT hZ (hw _ (List.mem_of_getElem? (i := 19) rfl))) (mvT hZ (hw _ (List.mem_of_getElem? (i := 20) rfl))) (mvT hZ (hw _ (List.mem_of_getElem? (i := 21) rfl))) (mvT hZ (hw _ (List.mem_of_getElem? (i := 22) rfl))) (mvT hZ (hw _ (List.mem_of_getElem? (i := 23) rfl))) (mvT hZ (hw _ (List.mem_of_getElem? (i := 24) rfl))) (mvT hZ (hw _ (List.mem_of_getElem? (i := 25) rfl))) (mvT hZ (hw _ (List.mem_of_getElem? (i := 26) rfl))) (by decide) (backOf (W := 0) (rm4_w_TRUE l Z a0 hw [] w_FALSE w_TRUE w_BOOL w_FALSE_value w_TRUE_value h0 n0 (by exact ⟨S_FALSE, E_FALSE, S_TRUE, E_TRUE, S_BOOL, E_BOOL, F_FALSE_value, E_FALSE_value, F_TRUE_value, E_TRUE_value, F_FALSE_sort, F_FALSE_value_signum, D_FALSE_TRUE, F_TRUE_sort, F_TRUE_value_signum⟩)) hZ (hw _ (List.mem_of_getElem? (i := 28) rfl)) (hw _ (List.mem_of_getElem? (i := 27) rfl)) (by decide) (by decide)) q1a q1b q1c (g := (mkF m 1 #[.val (.ref w_BOOL), .val (.ref w_TRUE), .val (.ref w_TRUE)] [(.ref w_TRUE)])) rfl (by rw [hml]; rfl) (Steps.refl _) (argsL := []) (rest := []) (lenOf pd___Lcom_example_loopwright_loopwright_solver_Sort_ rfl) rfl (by show 2 * 0 + _ ≤ _; exact Nat.le_of_eq rfl) (hb hby d3_1) (fun _ _ => ⟨rfl, e0, (by decide : 0 + 0 ≤ _), (by decide : 0 + 0 ≤ _)⟩)
  dsimp only [Pt.U, Pt.locs, Pt.cells, Pt.slots] at X1 l1 y1 z1 st1 hQ1
  subst l1 y1 z1
  obtain ⟨rfl, N1q, e1⟩ := hQ1
  have N1 := Fr.app N0 N1q
  refine own_tr st1 ?_
  show own_Fin p e below _ (T1.setTop (mkF m 6 #[.val (.ref w_BOOL), .val (.ref w_TRUE), .val (.ref w_TRUE)] [(.ref w_BOOL)]))
  refine own_st (fun t k => XS.aloadN X1.here hx rfl (hb hby d3_6) rfl rfl k) ?_
  show own_Fin p e below _ (T1.setTop (mkF m 7 #[.val (.ref w_BOOL), .val (.ref w_TRUE), .val (.ref w_TRUE)] [(.ref w_BOOL), (.ref w_BOOL)]))
  refine own_st (fun t k => Jvm.RoadKit.acmp (g := (mkF m 7 #[.val (.ref w_BOOL), .val (.ref w_TRUE), .val (.ref w_TRUE)] [(.ref w_BOOL), (.ref w_BOOL)])) X1 hx rfl rfl rfl (pc0 := 7) (pc' := 10) (same := true) rfl (hb hby d3_7) rfl (decide_eq_true rfl) (by decide) (by decide) k) ?_
  show own_Fin p e below _ (T1.setTop (mkF m 10 #[.val (.ref w_BOOL), .val (.ref w_TRUE), .val (.ref w_TRUE)] []))
  refine own_st (fun t k => XS.aloadN X1.here hx rfl (hb hby d3_10) rfl rfl k) ?_
  show own_Fin p e below _ (T1.setTop (mkF m 11 #[.val (.ref w_BOOL), .val (.ref w_TRUE), .val (.ref w_TRUE)] [(.ref w_TRUE)]))
  obtain ⟨cq2, kq2, q2a, q2b, q2c⟩ := isOf hZ e1 E_TRUE
  obtain ⟨_, _, ⟨T2, L2, k2, n2⟩, -, X2, ⟨Lc2, hQ2, l2, y2, z2⟩, st2⟩ := X1.interfaceBack hx (xi := (⟨"com/example/loopwright/loopwright/solver/Term", "sort", "()Lcom/example/loopwright/loopwright/solver/Sort;"⟩ : MethodName)) (y := (⟨"com/example/loopwright/loopwright/solver/Term$Constant", "sort", "()Lcom/example/loopwright/loopwright/solver/Sort;"⟩ : MethodName)) hown (mvT hZ (hw _ (List.mem_of_getElem? (i := 19) rfl))) (mvT hZ (hw _ (List.mem_of_getElem? (i := 20) rfl))) (mvT hZ (hw _ (List.mem_of_getElem? (i := 21) rfl))) (mvT hZ (hw _ (List.mem_of_getElem? (i := 22) rfl))) (mvT hZ (hw _ (List.mem_of_getElem? (i := 23) rfl))) (mvT hZ (hw _ (List.mem_of_getElem? (i := 24) rfl))) (mvT hZ (hw _ (List.mem_of_getElem? (i := 25) rfl))) (mvT hZ (hw _ (List.mem_of_getElem? (i := 26) rfl))) (by decide) (backOf (W := 0) (rm4_w_TRUE l Z a0 hw [] w_FALSE w_TRUE w_BOOL w_FALSE_value w_TRUE_value h0 n0 (by exact ⟨S_FALSE, E_FALSE, S_TRUE, E_TRUE, S_BOOL, E_BOOL, F_FALSE_value, E_FALSE_value, F_TRUE_value, E_TRUE_value, F_FALSE_sort, F_FALSE_value_signum, D_FALSE_TRUE, F_TRUE_sort, F_TRUE_value_signum⟩)) hZ (hw _ (List.mem_of_getElem? (i := 28) rfl)) (hw _ (List.mem_of_getElem? (i := 27) rfl)) (by decide) (by decide)) q2a q2b q2c (g := (mkF m 11 #[.val (.ref w_BOOL), .val (.ref w_TRUE), .val (.ref w_TRUE)] [(.ref w_TRUE)])) rfl (by rw [hml]; rfl) (Steps.refl _) (argsL := []) (rest := []) (lenOf pd___Lcom_example_loopwright_loopwright_solver_Sort_ rfl) rfl (by show 2 * 0 + _ ≤ _; exact Nat.le_of_eq rfl) (hb hby d3_11) (fun _ _ => ⟨rfl, e1, (by decide : 0 + 0 ≤ _), (by decide : 0 + 0 ≤ _)⟩)
  dsimp only [Pt.U, Pt.locs, Pt.cells, Pt.slots] at X2 l2 y2 z2 st2 hQ2
  subst l2 y2 z2
  obtain ⟨rfl, N2q, e2⟩ := hQ2
  have N2 := Fr.app N1 N2q
  refine own_tr st2 ?_
  show own_Fin p e below _ (T2.setTop (mkF m 16 #[.val (.ref w_BOOL), .val (.ref w_TRUE), .val (.ref w_TRUE)] [(.ref w_BOOL)]))
  refine own_st (fun t k => XS.aloadN X2.here hx rfl (hb hby d3_16) rfl rfl k) ?_
  show own_Fin p e below _ (T2.setTop (mkF m 17 #[.val (.ref w_BOOL), .val (.ref w_TRUE), .val (.ref w_TRUE)] [(.ref w_BOOL), (.ref w_BOOL)]))
  refine own_st (fun t k => Jvm.RoadKit.acmp (g := (mkF m 17 #[.val (.ref w_BOOL), .val (.ref w_TRUE), .val (.ref w_TRUE)] [(.ref w_BOOL), (.ref w_BOOL)])) X2 hx rfl rfl rfl (pc0 := 17) (pc' := 55) (same := true) rfl (hb hby d3_17) rfl (decide_eq_true rfl) (by decide) (by decide) k) ?_
  show own_Fin p e below _ (T2.setTop (mkF m 55 #[.val (.ref w_BOOL), .val (.ref w_TRUE), .val (.ref w_TRUE)] []))
  obtain ⟨fs, hr, hrun, hended, hW, hsame⟩ := X2.leave (v := none) (fun _ => rfl)
  exact ⟨_, _, X2.returnOut hx Bd.returns (hb hby d3_55) hr, hrun, hended, _, _, rfl, ⟨rfl, N2, e2⟩, ⟨_, rfl⟩, hW, hsame.mono (by decide) (by decide)⟩
set_option maxRecDepth 65536 in
set_option maxHeartbeats 40000000 in
theorem rm5_w_TRUE (l : Launch) (Z : State) (a0 : Array Value) (hw : ∀ d ∈ tables_1, d.before a0 Z = true) (ws : List Jvm.Cond) (w_FALSE w_TRUE w_BOOL w_FALSE_value w_TRUE_value : Addr) (h0 : Heap) (n0 : Nat) (PN : own_Pins Z h0 w_FALSE w_TRUE w_BOOL w_FALSE_value w_TRUE_value) :
    MetFree l (⟨"com/example/loopwright/loopwright/solver/Term$Constant", "value", "()Ljava/math/BigInteger;"⟩ : MethodName) (head1 (Jvm.Cond.code (⟨"com/example/loopwright/loopwright/solver/Term$Constant", "value", "()Ljava/math/BigInteger;"⟩ : MethodName) prog_98_method_6_code 1 (some (.object "java/math/BigInteger")) :: ws) ({ frames := 0, cells := 0, slots := 0, locals := 0 } : Room)) (fun a U => a = #[(.ref w_TRUE)] ∧ Z.Warmed39 U.vm ∧ U.heap = h0) (fun _ _ _ _ _ => True) (fun _ U o U' => ∃ v L, o = .returned v ∧ own_Q h0 n0 (some (.ref w_TRUE_value)) v U'.heap L ∧ FrameEnd U o U' L ({ frames := 0, cells := 0, slots := 0, locals := 0 } : Room).cells ({ frames := 0, cells := 0, slots := 0, locals := 0 } : Room).slots) := by
  obtain ⟨S_FALSE, E_FALSE, S_TRUE, E_TRUE, S_BOOL, E_BOOL, F_FALSE_value, E_FALSE_value, F_TRUE_value, E_TRUE_value, F_FALSE_sort, F_FALSE_value_signum, D_FALSE_TRUE, F_TRUE_sort, F_TRUE_value_signum⟩ := PN
  refine MetFree.of_bodySF (plainFor_of_name pn_com_example_loopwright_loopwright_solver_Term_Constant) hisR ?_
  intro p e s m args below meth c s₁ Bd hml0 hP hK
  obtain ⟨rfl, hZ, hh⟩ := hP
  have hx := Bd.exec
  have hby := Bd.bytes
  have hml : c.maxLocals = 1 := hml0
  have hown : s.vm.findClass "com/example/loopwright/loopwright/solver/Term$Constant" = some m.cls := findClass_of_methodNamed Bd.named
  have X0 : Stand p l e ({ frames := 0, cells := 0, slots := 0, locals := 0 } : Room) s m #[(.ref w_TRUE)] below meth c s₁ [] 0 0 := Stand.of_body Bd
  have e0 : s₁.heap = h0 := by rw [← hh, Bd.state]; rfl
  have N0 := Fr.nil n0
  refine (?_ : own_Fin p e below _ _)
  refine own_st (fun t k => castTop (ef_5_R m w_TRUE) k) ?_
  show own_Fin p e below _ (s₁.setTop (mkF m 0 #[.val (.ref w_TRUE)] []))
  refine own_st (fun t k => XS.aloadN X0.here hx rfl (hb hby d5_0) rfl rfl k) ?_
  show own_Fin p e below _ (s₁.setTop (mkF m 1 #[.val (.ref w_TRUE)] [(.ref w_TRUE)]))
  obtain ⟨T1, X1, e1, st1⟩ := getF X0 hx hZ hown (host := "") (Or.inl (hw _ (List.mem_of_getElem? (i := 38) rfl))) Via.refl e0 F_TRUE_value (g := (mkF m 1 #[.val (.ref w_TRUE)] [(.ref w_TRUE)])) rfl rfl (hb hby d5_1)
  refine own_st st1 ?_
  show own_Fin p e below _ (T1.setTop (mkF m 4 #[.val (.ref w_TRUE)] [(.ref w_TRUE_value)]))
  obtain ⟨fs, hr, hrun, hended, hW, hsame⟩ := X1.leave (v := some (.ref w_TRUE_value)) (fun h => by rw [Bd.returns] at h; cases h)
  exact ⟨_, _, retOut X1 hx (t := (.object "java/math/BigInteger")) Bd.returns rfl (Or.inr (Or.inr (Or.inr (Or.inr ⟨rfl, rfl, rfl⟩)))) (hb hby d5_4) hr, hrun, hended, _, _, rfl, ⟨rfl, N0, e1⟩, ⟨_, rfl⟩, hW, hsame.mono (by decide) (by decide)⟩
set_option maxRecDepth 65536 in
set_option maxHeartbeats 40000000 in
theorem rm6_w_TRUE_value (l : Launch) (Z : State) (a0 : Array Value) (hw : ∀ d ∈ tables_1, d.before a0 Z = true) (ws : List Jvm.Cond) (w_FALSE w_TRUE w_BOOL w_FALSE_value w_TRUE_value : Addr) (h0 : Heap) (n0 : Nat) (PN : own_Pins Z h0 w_FALSE w_TRUE w_BOOL w_FALSE_value w_TRUE_value) :
    MetFree l (⟨"java/math/BigInteger", "signum", "()I"⟩ : MethodName) (head1 (Jvm.Cond.code (⟨"java/math/BigInteger", "signum", "()I"⟩ : MethodName) jdk_2097_method_81_code 1 (some .int) :: ws) ({ frames := 0, cells := 0, slots := 0, locals := 0 } : Room)) (fun a U => a = #[(.ref w_TRUE_value)] ∧ Z.Warmed39 U.vm ∧ U.heap = h0) (fun _ _ _ _ _ => True) (fun _ U o U' => ∃ v L, o = .returned v ∧ own_Q h0 n0 (some (.int (1 : Int32))) v U'.heap L ∧ FrameEnd U o U' L ({ frames := 0, cells := 0, slots := 0, locals := 0 } : Room).cells ({ frames := 0, cells := 0, slots := 0, locals := 0 } : Room).slots) := by
  obtain ⟨S_FALSE, E_FALSE, S_TRUE, E_TRUE, S_BOOL, E_BOOL, F_FALSE_value, E_FALSE_value, F_TRUE_value, E_TRUE_value, F_FALSE_sort, F_FALSE_value_signum, D_FALSE_TRUE, F_TRUE_sort, F_TRUE_value_signum⟩ := PN
  refine MetFree.of_bodySF (plainFor_of_name pn_java_math_BigInteger) hisR ?_
  intro p e s m args below meth c s₁ Bd hml0 hP hK
  obtain ⟨rfl, hZ, hh⟩ := hP
  have hx := Bd.exec
  have hby := Bd.bytes
  have hml : c.maxLocals = 1 := hml0
  have hown : s.vm.findClass "java/math/BigInteger" = some m.cls := findClass_of_methodNamed Bd.named
  have X0 : Stand p l e ({ frames := 0, cells := 0, slots := 0, locals := 0 } : Room) s m #[(.ref w_TRUE_value)] below meth c s₁ [] 0 0 := Stand.of_body Bd
  have e0 : s₁.heap = h0 := by rw [← hh, Bd.state]; rfl
  have N0 := Fr.nil n0
  refine (?_ : own_Fin p e below _ _)
  refine own_st (fun t k => castTop (ef_6_R m w_TRUE_value) k) ?_
  show own_Fin p e below _ (s₁.setTop (mkF m 0 #[.val (.ref w_TRUE_value)] []))
  refine own_st (fun t k => XS.aloadN X0.here hx rfl (hb hby d6_0) rfl rfl k) ?_
  show own_Fin p e below _ (s₁.setTop (mkF m 1 #[.val (.ref w_TRUE_value)] [(.ref w_TRUE_value)]))
  obtain ⟨T1, X1, e1, st1⟩ := getF X0 hx hZ hown (host := "") (Or.inl (hw _ (List.mem_of_getElem? (i := 46) rfl))) Via.refl e0 F_TRUE_value_signum (g := (mkF m 1 #[.val (.ref w_TRUE_value)] [(.ref w_TRUE_value)])) rfl rfl (hb hby d6_1)
  refine own_st st1 ?_
  show own_Fin p e below _ (T1.setTop (mkF m 4 #[.val (.ref w_TRUE_value)] [(.int (1 : Int32))]))
  obtain ⟨fs, hr, hrun, hended, hW, hsame⟩ := X1.leave (v := some (.int (1 : Int32))) (fun h => by rw [Bd.returns] at h; cases h)
  exact ⟨_, _, retI X1 hx Bd.returns (hb hby d6_4) hr, hrun, hended, _, _, rfl, ⟨rfl, N0, e1⟩, ⟨_, rfl⟩, hW, hsame.mono (by decide) (by decide)⟩
theorem d2_34 : decode prog_96_method_17_code 34 = .ok (.iconst 0, 1) := by decide +kernel
set_option maxRecDepth 65536 in
set_option maxHeartbeats 40000000 in
theorem rm2_w_TRUE (l : Launch) (Z : State) (a0 : Array Value) (hw : ∀ d ∈ tables_1, d.before a0 Z = true) (ws : List Jvm.Cond) (w_FALSE w_TRUE w_BOOL w_FALSE_value w_TRUE_value : Addr) (h0 : Heap) (n0 : Nat) (PN : own_Pins Z h0 w_FALSE w_TRUE w_BOOL w_FALSE_value w_TRUE_value) :
    MetFree l (⟨"com/example/loopwright/loopwright/solver/Term", "not", "(Lcom/example/loopwright/loopwright/solver/Term;)Lcom/example/loopwright/loopwright/solver/Term;"⟩ : MethodName) (head1 (Jvm.Cond.code (⟨"com/example/loopwright/loopwright/solver/Term", "not", "(Lcom/example/loopwright/loopwright/solver/Term;)Lcom/example/loopwright/loopwright/solver/Term;"⟩ : MethodName) prog_96_method_17_code 4 (some (.object "com/example/loopwright/loopwright/solver/Term")) :: ws) ({ frames := 2, cells := 0, slots := 0, locals := 26 } : Room)) (fun a U => a = #[(.ref w_TRUE)] ∧ Z.Warmed39 U.vm ∧ U.heap = h0) (fun _ _ _ _ _ => True) (fun _ U o U' => ∃ v L, o = .returned v ∧ own_Q h0 n0 (some (.ref w_FALSE)) v U'.heap L ∧ FrameEnd U o U' L ({ frames := 2, cells := 0, slots := 0, locals := 26 } : Room).cells ({ frames := 2, cells := 0, slots := 0, locals := 26 } : Room).slots) := by
  obtain ⟨S_FALSE, E_FALSE, S_TRUE, E_TRUE, S_BOOL, E_BOOL, F_FALSE_value, E_FALSE_value, F_TRUE_value, E_TRUE_value, F_FALSE_sort, F_FALSE_value_signum, D_FALSE_TRUE, F_TRUE_sort, F_TRUE_value_signum⟩ := PN
  refine MetFree.of_bodySF (plainFor_of_name pn_com_example_loopwright_loopwright_solver_Term) hisR ?_
  intro p e s m args below meth c s₁ Bd hml0 hP hK
  obtain ⟨rfl, hZ, hh⟩ := hP
  have hx := Bd.exec
  have hby := Bd.bytes
  have hml : c.maxLocals = 4 := hml0
  have hown : s.vm.findClass "com/example/loopwright/loopwright/solver/Term" = some m.cls := findClass_of_methodNamed Bd.named
  have X0 : Stand p l e ({ frames := 2, cells := 0, slots := 0, locals := 26 } : Room) s m #[(.ref w_TRUE)] below meth c s₁ [] 0 0 := Stand.of_body Bd
  have e0 : s₁.heap = h0 := by rw [← hh, Bd.state]; rfl
  have N0 := Fr.nil n0
  refine (?_ : own_Fin p e below _ _)
  refine own_st (fun t k => castTop (ef_2_R m w_TRUE) k) ?_
  show own_Fin p e below _ (s₁.setTop (mkF m 0 #[.val (.ref w_TRUE), .unset, .unset, .unset] []))
  obtain ⟨T1, X1, e1, st1⟩ := getS2 X0 hx hZ hown (host := "") (Or.inl (hw _ (List.mem_of_getElem? (i := 13) rfl))) Via.refl e0 S_BOOL (g := (mkF m 0 #[.val (.ref w_TRUE), .unset, .unset, .unset] [])) rfl (hb hby d2_0)
  refine own_st st1 ?_
  show own_Fin p e below _ (T1.setTop (mkF m 3 #[.val (.ref w_TRUE), .unset, .unset, .unset] [(.ref w_BOOL)]))
  refine own_st (fun t k => XS.aloadN X1.here hx rfl (hb hby d2_3) rfl rfl k) ?_
  show own_Fin p e below _ (T1.setTop (mkF m 4 #[.val (.ref w_TRUE), .unset, .unset, .unset] [(.ref w_TRUE), (.ref w_BOOL)]))
  refine own_st (fun t k => XS.aloadN X1.here hx rfl (hb hby d2_4) rfl rfl k) ?_
  show own_Fin p e below _ (T1.setTop (mkF m 5 #[.val (.ref w_TRUE), .unset, .unset, .unset] [(.ref w_TRUE), (.ref w_TRUE), (.ref w_BOOL)]))
  obtain ⟨_, _, ⟨T2, L2, k2, n2⟩, -, X2, ⟨Lc2, hQ2, l2, y2, z2⟩, st2⟩ := Jvm.LawKit.callS X1 hx (y := (⟨"com/example/loopwright/loopwright/solver/Term", "requireSort", "(Lcom/example/loopwright/loopwright/solver/Sort;Lcom/example/loopwright/loopwright/solver/Term;Lcom/example/loopwright/loopwright/solver/Term;)V"⟩ : MethodName)) hown (mvT hZ (hw _ (List.mem_of_getElem? (i := 16) rfl))) (mvT hZ (hw _ (List.mem_of_getElem? (i := 17) rfl))) (mvT hZ (hw _ (List.mem_of_getElem? (i := 1) rfl))) (mvT hZ (hw _ (List.mem_of_getElem? (i := 18) rfl))) (by decide) (backOf (W := 0) (rm3_w_BOOL_w_TRUE_w_TRUE l Z a0 hw [] w_FALSE w_TRUE w_BOOL w_FALSE_value w_TRUE_value h0 n0 (by exact ⟨S_FALSE, E_FALSE, S_TRUE, E_TRUE, S_BOOL, E_BOOL, F_FALSE_value, E_FALSE_value, F_TRUE_value, E_TRUE_value, F_FALSE_sort, F_FALSE_value_signum, D_FALSE_TRUE, F_TRUE_sort, F_TRUE_value_signum⟩)) hZ (hw _ (List.mem_of_getElem? (i := 18) rfl)) (hw _ (List.mem_of_getElem? (i := 1) rfl)) (by decide) (by decide)) (g := (mkF m 5 #[.val (.ref w_TRUE), .unset, .unset, .unset] [(.ref w_TRUE), (.ref w_TRUE), (.ref w_BOOL)])) rfl (by rw [hml]; rfl) (argsL := [(.ref w_BOOL), (.ref w_TRUE), (.ref w_TRUE)]) (rest := []) (lenOf pd__Lcom_example_loopwright_loopwright_solver_Sort_Lcom_example_loopwright_loopwright_solver_Term_Lcom_example_loopwright_loopwright_solver_Term__V rfl) rfl (by show 2 * 0 + _ ≤ _; exact Nat.le_of_eq rfl) (hb hby d2_5) (fun _ _ => ⟨rfl, e1, (by decide : 0 + 0 ≤ _), (by decide : 0 + 0 ≤ _)⟩)
  dsimp only [Pt.U, Pt.locs, Pt.cells, Pt.slots] at X2 l2 y2 z2 st2 hQ2
  subst l2 y2 z2
  obtain ⟨rfl, N2q, e2⟩ := hQ2
  have N2 := Fr.app N0 N2q
  refine own_st st2 ?_
  show own_Fin p e below _ (T2.setTop (mkF m 8 #[.val (.ref w_TRUE), .unset, .unset, .unset] []))
  refine own_st (fun t k => XS.aloadN X2.here hx rfl (hb hby d2_8) rfl rfl k) ?_
  show own_Fin p e below _ (T2.setTop (mkF m 9 #[.val (.ref w_TRUE), .unset, .unset, .unset] [(.ref w_TRUE)]))
  obtain ⟨T3, X3, e3, st3⟩ := instY X2 hx hZ hown (hw _ (List.mem_of_getElem? (i := 31) rfl)) e2 (Ins.self E_TRUE) (g := (mkF m 9 #[.val (.ref w_TRUE), .unset, .unset, .unset] [(.ref w_TRUE)])) rfl rfl (hb hby d2_9)
  refine own_st st3 ?_
  show own_Fin p e below _ (T3.setTop (mkF m 12 #[.val (.ref w_TRUE), .unset, .unset, .unset] [(.int (1 : Int32))]))
  refine own_st (fun t k => XS.ifNo X3.here hx rfl (hb hby d2_12) rfl (by decide) k) ?_
  show own_Fin p e below _ (T3.setTop (mkF m 15 #[.val (.ref w_TRUE), .unset, .unset, .unset] []))
  refine own_st (fun t k => XS.aloadN X3.here hx rfl (hb hby d2_15) rfl rfl k) ?_
  show own_Fin p e below _ (T3.setTop (mkF m 16 #[.val (.ref w_TRUE), .unset, .unset, .unset] [(.ref w_TRUE)]))
  obtain ⟨T4, X4, e4, st4⟩ := castY X3 hx hZ hown (hw _ (List.mem_of_getElem? (i := 31) rfl)) e3 (Ins.self E_TRUE) (g := (mkF m 16 #[.val (.ref w_TRUE), .unset, .unset, .unset] [(.ref w_TRUE)])) rfl rfl (hb hby d2_16)
  refine own_st st4 ?_
  show own_Fin p e below _ (T4.setTop (mkF m 19 #[.val (.ref w_TRUE), .unset, .unset, .unset] [(.ref w_TRUE)]))
  refine own_st (fun t k => XS.astoreN X4.here hx rfl (hb hby d2_19) rfl rfl (l' := #[.val (.ref w_TRUE), .unset, .val (.ref w_TRUE), .unset]) rfl k) ?_
  show own_Fin p e below _ (T4.setTop (mkF m 20 #[.val (.ref w_TRUE), .unset, .val (.ref w_TRUE), .unset] []))
  refine own_st (fun t k => XS.aloadN X4.here hx rfl (hb hby d2_20) rfl rfl k) ?_
  show own_Fin p e below _ (T4.setTop (mkF m 21 #[.val (.ref w_TRUE), .unset, .val (.ref w_TRUE), .unset] [(.ref w_TRUE)]))
  obtain ⟨cq5, kq5, q5a, q5b, q5c⟩ := isOf hZ e4 E_TRUE
  obtain ⟨_, _, ⟨T5, L5, k5, n5⟩, -, X5, ⟨Lc5, hQ5, l5, y5, z5⟩, st5⟩ := X4.virtualBack hx (y := (⟨"com/example/loopwright/loopwright/solver/Term$Constant", "value", "()Ljava/math/BigInteger;"⟩ : MethodName)) (z := (⟨"com/example/loopwright/loopwright/solver/Term$Constant", "value", "()Ljava/math/BigInteger;"⟩ : MethodName)) hown (mvT hZ (hw _ (List.mem_of_getElem? (i := 33) rfl))) (mvT hZ (hw _ (List.mem_of_getElem? (i := 34) rfl))) (notFace_of_selects (args := #[]) (mvT hZ (hw _ (List.mem_of_getElem? (i := 36) rfl)))) (mvT hZ (hw _ (List.mem_of_getElem? (i := 36) rfl))) (mvT hZ (hw _ (List.mem_of_getElem? (i := 35) rfl))) (by decide) (backOf (W := 0) (rm5_w_TRUE l Z a0 hw [] w_FALSE w_TRUE w_BOOL w_FALSE_value w_TRUE_value h0 n0 (by exact ⟨S_FALSE, E_FALSE, S_TRUE, E_TRUE, S_BOOL, E_BOOL, F_FALSE_value, E_FALSE_value, F_TRUE_value, E_TRUE_value, F_FALSE_sort, F_FALSE_value_signum, D_FALSE_TRUE, F_TRUE_sort, F_TRUE_value_signum⟩)) hZ (hw _ (List.mem_of_getElem? (i := 37) rfl)) (hw _ (List.mem_of_getElem? (i := 27) rfl)) (by decide) (by decide)) q5a q5c (g := (mkF m 21 #[.val (.ref w_TRUE), .unset, .val (.ref w_TRUE), .unset] [(.ref w_TRUE)])) rfl (by rw [hml]; rfl) (Steps.refl _) (argsL := []) (rest := []) (lenOf pd___Ljava_math_BigInteger_ rfl) rfl (by show 2 * 0 + _ ≤ _; exact Nat.le_of_eq rfl) (hb hby d2_21) (fun _ _ => ⟨rfl, e4, (by decide : 0 + 0 ≤ _), (by decide : 0 + 0 ≤ _)⟩)
  dsimp only [Pt.U, Pt.locs, Pt.cells, Pt.slots] at X5 l5 y5 z5 st5 hQ5
  subst l5 y5 z5
  obtain ⟨rfl, N5q, e5⟩ := hQ5
  have N5 := Fr.app N2 N5q
  refine own_tr st5 ?_
  show own_Fin p e below _ (T5.setTop (mkF m 24 #[.val (.ref w_TRUE), .unset, .val (.ref w_TRUE), .unset] [(.ref w_TRUE_value)]))
  obtain ⟨cq6, kq6, q6a, q6b, q6c⟩ := isOf hZ e5 E_TRUE_value
  obtain ⟨_, _, ⟨T6, L6, k6, n6⟩, -, X6, ⟨Lc6, hQ6, l6, y6, z6⟩, st6⟩ := X5.virtualBack hx (y := (⟨"java/math/BigInteger", "signum", "()I"⟩ : MethodName)) (z := (⟨"java/math/BigInteger", "signum", "()I"⟩ : MethodName)) hown (mvT hZ (hw _ (List.mem_of_getElem? (i := 40) rfl))) (mvT hZ (hw _ (List.mem_of_getElem? (i := 41) rfl))) (notFace_of_selects (args := #[]) (mvT hZ (hw _ (List.mem_of_getElem? (i := 43) rfl)))) (mvT hZ (hw _ (List.mem_of_getElem? (i := 43) rfl))) (mvT hZ (hw _ (List.mem_of_getElem? (i := 42) rfl))) (by decide) (backOf (W := 0) (rm6_w_TRUE_value l Z a0 hw [] w_FALSE w_TRUE w_BOOL w_FALSE_value w_TRUE_value h0 n0 (by exact ⟨S_FALSE, E_FALSE, S_TRUE, E_TRUE, S_BOOL, E_BOOL, F_FALSE_value, E_FALSE_value, F_TRUE_value, E_TRUE_value, F_FALSE_sort, F_FALSE_value_signum, D_FALSE_TRUE, F_TRUE_sort, F_TRUE_value_signum⟩)) hZ (hw _ (List.mem_of_getElem? (i := 45) rfl)) (hw _ (List.mem_of_getElem? (i := 44) rfl)) (by decide) (by decide)) q6a q6c (g := (mkF m 24 #[.val (.ref w_TRUE), .unset, .val (.ref w_TRUE), .unset] [(.ref w_TRUE_value)])) rfl (by rw [hml]; rfl) (Steps.refl _) (argsL := []) (rest := []) (lenOf pd___I rfl) rfl (by show 2 * 0 + _ ≤ _; exact Nat.le_of_eq rfl) (hb hby d2_24) (fun _ _ => ⟨rfl, e5, (by decide : 0 + 0 ≤ _), (by decide : 0 + 0 ≤ _)⟩)
  dsimp only [Pt.U, Pt.locs, Pt.cells, Pt.slots] at X6 l6 y6 z6 st6 hQ6
  subst l6 y6 z6
  obtain ⟨rfl, N6q, e6⟩ := hQ6
  have N6 := Fr.app N5 N6q
  refine own_tr st6 ?_
  show own_Fin p e below _ (T6.setTop (mkF m 27 #[.val (.ref w_TRUE), .unset, .val (.ref w_TRUE), .unset] [(.int (1 : Int32))]))
  refine own_st (fun t k => XS.ifYes X6.here hx rfl (pc0 := 27) (pc' := 34) rfl (hb hby d2_27) rfl (by decide) (by decide) (by decide) k) ?_
  show own_Fin p e below _ (T6.setTop (mkF m 34 #[.val (.ref w_TRUE), .unset, .val (.ref w_TRUE), .unset] []))
  refine own_st (fun t k => XS.iconst X6.here hx rfl (hb hby d2_34) k) ?_
  show own_Fin p e below _ (T6.setTop (mkF m 35 #[.val (.ref w_TRUE), .unset, .val (.ref w_TRUE), .unset] [(.int (0 : Int32))]))
  obtain ⟨_, _, ⟨T7, L7, k7, n7⟩, -, X7, ⟨Lc7, hQ7, l7, y7, z7⟩, st7⟩ := Jvm.LawKit.callS X6 hx (y := (⟨"com/example/loopwright/loopwright/solver/Term", "bool", "(Z)Lcom/example/loopwright/loopwright/solver/Term;"⟩ : MethodName)) hown (mvT hZ (hw _ (List.mem_of_getElem? (i := 48) rfl))) (mvT hZ (hw _ (List.mem_of_getElem? (i := 6) rfl))) (mvT hZ (hw _ (List.mem_of_getElem? (i := 1) rfl))) (mvT hZ (hw _ (List.mem_of_getElem? (i := 7) rfl))) (by decide) (backOf (W := 0) (rm1_0 l Z a0 hw [] w_FALSE w_TRUE w_BOOL w_FALSE_value w_TRUE_value h0 n0 (by exact ⟨S_FALSE, E_FALSE, S_TRUE, E_TRUE, S_BOOL, E_BOOL, F_FALSE_value, E_FALSE_value, F_TRUE_value, E_TRUE_value, F_FALSE_sort, F_FALSE_value_signum, D_FALSE_TRUE, F_TRUE_sort, F_TRUE_value_signum⟩)) hZ (hw _ (List.mem_of_getElem? (i := 7) rfl)) (hw _ (List.mem_of_getElem? (i := 1) rfl)) (by decide) (by decide)) (g := (mkF m 35 #[.val (.ref w_TRUE), .unset, .val (.ref w_TRUE), .unset] [(.int (0 : Int32))])) rfl (by rw [hml]; rfl) (argsL := [(.int (0 : Int32))]) (rest := []) (lenOf pd__Z_Lcom_example_loopwright_loopwright_solver_Term_ rfl) rfl (by show 2 * 0 + _ ≤ _; exact Nat.le_of_eq rfl) (hb hby d2_35) (fun _ _ => ⟨rfl, e6, (by decide : 0 + 0 ≤ _), (by decide : 0 + 0 ≤ _)⟩)
  dsimp only [Pt.U, Pt.locs, Pt.cells, Pt.slots] at X7 l7 y7 z7 st7 hQ7
  subst l7 y7 z7
  obtain ⟨rfl, N7q, e7⟩ := hQ7
  have N7 := Fr.app N6 N7q
  refine own_st st7 ?_
  show own_Fin p e below _ (T7.setTop (mkF m 38 #[.val (.ref w_TRUE), .unset, .val (.ref w_TRUE), .unset] [(.ref w_FALSE)]))
  refine own_st (fun t k => XS.astoreN X7.here hx rfl (hb hby d2_38) rfl rfl (l' := #[.val (.ref w_TRUE), .val (.ref w_FALSE), .val (.ref w_TRUE), .unset]) rfl k) ?_
  show own_Fin p e below _ (T7.setTop (mkF m 39 #[.val (.ref w_TRUE), .val (.ref w_FALSE), .val (.ref w_TRUE), .unset] []))
  refine own_st (fun t k => XS.goto X7.here hx rfl (pc0 := 39) (pc' := 96) rfl (hb hby d2_39) (by decide) (by decide) k) ?_
  show own_Fin p e below _ (T7.setTop (mkF m 96 #[.val (.ref w_TRUE), .val (.ref w_FALSE), .val (.ref w_TRUE), .unset] []))
  refine own_st (fun t k => XS.aloadN X7.here hx rfl (hb hby d2_96) rfl rfl k) ?_
  show own_Fin p e below _ (T7.setTop (mkF m 97 #[.val (.ref w_TRUE), .val (.ref w_FALSE), .val (.ref w_TRUE), .unset] [(.ref w_FALSE)]))
  obtain ⟨fs, hr, hrun, hended, hW, hsame⟩ := X7.leave (v := some (.ref w_FALSE)) (fun h => by rw [Bd.returns] at h; cases h)
  exact ⟨_, _, retOut X7 hx (t := (.object "com/example/loopwright/loopwright/solver/Term")) Bd.returns rfl (Or.inr (Or.inr (Or.inr (Or.inr ⟨rfl, rfl, rfl⟩)))) (hb hby d2_97) hr, hrun, hended, _, _, rfl, ⟨rfl, N7, e7⟩, ⟨_, rfl⟩, hW, hsame.mono (by decide) (by decide)⟩
set_option maxRecDepth 65536 in
set_option maxHeartbeats 40000000 in
theorem rm0_c1 (l : Launch) (Z : State) (a0 : Array Value) (hw : ∀ d ∈ tables_1, d.before a0 Z = true) (ws : List Jvm.Cond) (w_FALSE w_TRUE w_BOOL w_FALSE_value w_TRUE_value : Addr) (p0 : Int32) (h0 : Heap) (n0 : Nat) (PN : own_Pins Z h0 w_FALSE w_TRUE w_BOOL w_FALSE_value w_TRUE_value) (q0 : (p0 &&& (1 : Int32)) = (1 : Int32)) :
    MetFree l x (head1 (Jvm.Cond.code x code maxLocals ret :: ws) room_1) (fun a U => a = #[(.int p0)] ∧ Z.Warmed39 U.vm ∧ U.heap = h0) (fun _ _ _ _ _ => True) (fun _ U o U' => ∃ v L, o = .returned v ∧ own_Q h0 n0 (some (.int (1 : Int32))) v U'.heap L ∧ FrameEnd U o U' L room_1.cells room_1.slots) := by
  obtain ⟨S_FALSE, E_FALSE, S_TRUE, E_TRUE, S_BOOL, E_BOOL, F_FALSE_value, E_FALSE_value, F_TRUE_value, E_TRUE_value, F_FALSE_sort, F_FALSE_value_signum, D_FALSE_TRUE, F_TRUE_sort, F_TRUE_value_signum⟩ := PN
  refine MetFree.of_bodySF (plainFor_of_name pn_com_example_loopwright_loopwright_solver_TermBoolPinLaw) hisR ?_
  intro p e s m args below meth c s₁ Bd hml0 hP hK
  obtain ⟨rfl, hZ, hh⟩ := hP
  have hx := Bd.exec
  have hby := Bd.bytes
  have hml : c.maxLocals = 7 := hml0
  have hown : s.vm.findClass "com/example/loopwright/loopwright/solver/TermBoolPinLaw" = some m.cls := findClass_of_methodNamed Bd.named
  have X0 : Stand p l e room_1 s m #[(.int p0)] below meth c s₁ [] 0 0 := Stand.of_body Bd
  have e0 : s₁.heap = h0 := by rw [← hh, Bd.state]; rfl
  have N0 := Fr.nil n0
  refine (?_ : own_Fin p e below _ _)
  refine own_st (fun t k => castTop (ef_0_I m p0) k) ?_
  show own_Fin p e below _ (s₁.setTop (mkF m 0 #[.val (.int p0), .unset, .unset, .unset, .unset, .unset, .unset] []))
  refine own_st (fun t k => XS.iloadN X0.here hx rfl (hb hby at_0) rfl k) ?_
  show own_Fin p e below _ (s₁.setTop (mkF m 1 #[.val (.int p0), .unset, .unset, .unset, .unset, .unset, .unset] [(.int p0)]))
  refine own_st (fun t k => XS.iconst X0.here hx rfl (hb hby at_1) k) ?_
  show own_Fin p e below _ (s₁.setTop (mkF m 2 #[.val (.int p0), .unset, .unset, .unset, .unset, .unset, .unset] [(.int (1 : Int32)), (.int p0)]))
  refine own_st (fun t k => XS.iand X0.here hx rfl (hb hby at_2) rfl k) ?_
  show own_Fin p e below _ (s₁.setTop (mkF m 3 #[.val (.int p0), .unset, .unset, .unset, .unset, .unset, .unset] [(.int (p0 &&& (1 : Int32)))]))
  rw [q0]
  show own_Fin p e below _ (s₁.setTop (mkF m 3 #[.val (.int p0), .unset, .unset, .unset, .unset, .unset, .unset] [(.int (1 : Int32))]))
  refine own_st (fun t k => XS.ifNo X0.here hx rfl (hb hby at_3) rfl (by decide) k) ?_
  show own_Fin p e below _ (s₁.setTop (mkF m 6 #[.val (.int p0), .unset, .unset, .unset, .unset, .unset, .unset] []))
  refine own_st (fun t k => XS.iconst X0.here hx rfl (hb hby at_6) k) ?_
  show own_Fin p e below _ (s₁.setTop (mkF m 7 #[.val (.int p0), .unset, .unset, .unset, .unset, .unset, .unset] [(.int (1 : Int32))]))
  refine own_st (fun t k => XS.goto X0.here hx rfl (pc0 := 7) (pc' := 11) rfl (hb hby at_7) (by decide) (by decide) k) ?_
  show own_Fin p e below _ (s₁.setTop (mkF m 11 #[.val (.int p0), .unset, .unset, .unset, .unset, .unset, .unset] [(.int (1 : Int32))]))
  refine own_st (fun t k => XS.istoreN X0.here hx rfl (hb hby at_11) rfl (l' := #[.val (.int p0), .val (.int (1 : Int32)), .unset, .unset, .unset, .unset, .unset]) rfl k) ?_
  show own_Fin p e below _ (s₁.setTop (mkF m 12 #[.val (.int p0), .val (.int (1 : Int32)), .unset, .unset, .unset, .unset, .unset] []))
  refine own_st (fun t k => XS.iloadN X0.here hx rfl (hb hby at_12) rfl k) ?_
  show own_Fin p e below _ (s₁.setTop (mkF m 13 #[.val (.int p0), .val (.int (1 : Int32)), .unset, .unset, .unset, .unset, .unset] [(.int (1 : Int32))]))
  refine own_st (fun t k => XS.ifNo X0.here hx rfl (hb hby at_13) rfl (by decide) k) ?_
  show own_Fin p e below _ (s₁.setTop (mkF m 16 #[.val (.int p0), .val (.int (1 : Int32)), .unset, .unset, .unset, .unset, .unset] []))
  obtain ⟨T1, X1, e1, st1⟩ := getS2 X0 hx hZ hown (host := "") (Or.inl (hw _ (List.mem_of_getElem? (i := 3) rfl))) Via.refl e0 S_TRUE (g := (mkF m 16 #[.val (.int p0), .val (.int (1 : Int32)), .unset, .unset, .unset, .unset, .unset] [])) rfl (hb hby at_16)
  refine own_st st1 ?_
  show own_Fin p e below _ (T1.setTop (mkF m 19 #[.val (.int p0), .val (.int (1 : Int32)), .unset, .unset, .unset, .unset, .unset] [(.ref w_TRUE)]))
  refine own_st (fun t k => XS.goto X1.here hx rfl (pc0 := 19) (pc' := 25) rfl (hb hby at_19) (by decide) (by decide) k) ?_
  show own_Fin p e below _ (T1.setTop (mkF m 25 #[.val (.int p0), .val (.int (1 : Int32)), .unset, .unset, .unset, .unset, .unset] [(.ref w_TRUE)]))
  refine own_st (fun t k => XS.astoreN X1.here hx rfl (hb hby at_25) rfl rfl (l' := #[.val (.int p0), .val (.int (1 : Int32)), .val (.ref w_TRUE), .unset, .unset, .unset, .unset]) rfl k) ?_
  show own_Fin p e below _ (T1.setTop (mkF m 26 #[.val (.int p0), .val (.int (1 : Int32)), .val (.ref w_TRUE), .unset, .unset, .unset, .unset] []))
  refine own_st (fun t k => XS.iloadN X1.here hx rfl (hb hby at_26) rfl k) ?_
  show own_Fin p e below _ (T1.setTop (mkF m 27 #[.val (.int p0), .val (.int (1 : Int32)), .val (.ref w_TRUE), .unset, .unset, .unset, .unset] [(.int (1 : Int32))]))
  refine own_st (fun t k => XS.ifNo X1.here hx rfl (hb hby at_27) rfl (by decide) k) ?_
  show own_Fin p e below _ (T1.setTop (mkF m 30 #[.val (.int p0), .val (.int (1 : Int32)), .val (.ref w_TRUE), .unset, .unset, .unset, .unset] []))
  obtain ⟨T2, X2, e2, st2⟩ := getS2 X1 hx hZ hown (host := "") (Or.inl (hw _ (List.mem_of_getElem? (i := 0) rfl))) Via.refl e1 S_FALSE (g := (mkF m 30 #[.val (.int p0), .val (.int (1 : Int32)), .val (.ref w_TRUE), .unset, .unset, .unset, .unset] [])) rfl (hb hby at_30)
  refine own_st st2 ?_
  show own_Fin p e below _ (T2.setTop (mkF m 33 #[.val (.int p0), .val (.int (1 : Int32)), .val (.ref w_TRUE), .unset, .unset, .unset, .unset] [(.ref w_FALSE)]))
  refine own_st (fun t k => XS.goto X2.here hx rfl (pc0 := 33) (pc' := 39) rfl (hb hby at_33) (by decide) (by decide) k) ?_
  show own_Fin p e below _ (T2.setTop (mkF m 39 #[.val (.int p0), .val (.int (1 : Int32)), .val (.ref w_TRUE), .unset, .unset, .unset, .unset] [(.ref w_FALSE)]))
  refine own_st (fun t k => XS.astoreN X2.here hx rfl (hb hby at_39) rfl rfl (l' := #[.val (.int p0), .val (.int (1 : Int32)), .val (.ref w_TRUE), .val (.ref w_FALSE), .unset, .unset, .unset]) rfl k) ?_
  show own_Fin p e below _ (T2.setTop (mkF m 40 #[.val (.int p0), .val (.int (1 : Int32)), .val (.ref w_TRUE), .val (.ref w_FALSE), .unset, .unset, .unset] []))
  refine own_st (fun t k => XS.iloadN X2.here hx rfl (hb hby at_40) rfl k) ?_
  show own_Fin p e below _ (T2.setTop (mkF m 41 #[.val (.int p0), .val (.int (1 : Int32)), .val (.ref w_TRUE), .val (.ref w_FALSE), .unset, .unset, .unset] [(.int (1 : Int32))]))
  obtain ⟨_, _, ⟨T3, L3, k3, n3⟩, -, X3, ⟨Lc3, hQ3, l3, y3, z3⟩, st3⟩ := Jvm.LawKit.callS X2 hx (y := (⟨"com/example/loopwright/loopwright/solver/Term", "bool", "(Z)Lcom/example/loopwright/loopwright/solver/Term;"⟩ : MethodName)) hown (mvT hZ (hw _ (List.mem_of_getElem? (i := 5) rfl))) (mvT hZ (hw _ (List.mem_of_getElem? (i := 6) rfl))) (mvT hZ (hw _ (List.mem_of_getElem? (i := 1) rfl))) (mvT hZ (hw _ (List.mem_of_getElem? (i := 7) rfl))) (by decide) (backOf (W := 0) (rm1_1 l Z a0 hw [] w_FALSE w_TRUE w_BOOL w_FALSE_value w_TRUE_value h0 n0 (by exact ⟨S_FALSE, E_FALSE, S_TRUE, E_TRUE, S_BOOL, E_BOOL, F_FALSE_value, E_FALSE_value, F_TRUE_value, E_TRUE_value, F_FALSE_sort, F_FALSE_value_signum, D_FALSE_TRUE, F_TRUE_sort, F_TRUE_value_signum⟩)) hZ (hw _ (List.mem_of_getElem? (i := 7) rfl)) (hw _ (List.mem_of_getElem? (i := 1) rfl)) (by decide) (by decide)) (g := (mkF m 41 #[.val (.int p0), .val (.int (1 : Int32)), .val (.ref w_TRUE), .val (.ref w_FALSE), .unset, .unset, .unset] [(.int (1 : Int32))])) rfl (by rw [hml]; rfl) (argsL := [(.int (1 : Int32))]) (rest := []) (lenOf pd__Z_Lcom_example_loopwright_loopwright_solver_Term_ rfl) rfl (by show 2 * 0 + _ ≤ _; exact Nat.le_of_eq rfl) (hb hby at_41) (fun _ _ => ⟨rfl, e2, (by decide : 0 + 0 ≤ _), (by decide : 0 + 0 ≤ _)⟩)
  dsimp only [Pt.U, Pt.locs, Pt.cells, Pt.slots] at X3 l3 y3 z3 st3 hQ3
  subst l3 y3 z3
  obtain ⟨rfl, N3q, e3⟩ := hQ3
  have N3 := Fr.app N0 N3q
  refine own_st st3 ?_
  show own_Fin p e below _ (T3.setTop (mkF m 44 #[.val (.int p0), .val (.int (1 : Int32)), .val (.ref w_TRUE), .val (.ref w_FALSE), .unset, .unset, .unset] [(.ref w_TRUE)]))
  refine own_st (fun t k => XS.astore X3.here hx rfl (hb hby at_44) rfl rfl (l' := #[.val (.int p0), .val (.int (1 : Int32)), .val (.ref w_TRUE), .val (.ref w_FALSE), .val (.ref w_TRUE), .unset, .unset]) rfl k) ?_
  show own_Fin p e below _ (T3.setTop (mkF m 46 #[.val (.int p0), .val (.int (1 : Int32)), .val (.ref w_TRUE), .val (.ref w_FALSE), .val (.ref w_TRUE), .unset, .unset] []))
  refine own_st (fun t k => XS.iloadN X3.here hx rfl (hb hby at_46) rfl k) ?_
  show own_Fin p e below _ (T3.setTop (mkF m 47 #[.val (.int p0), .val (.int (1 : Int32)), .val (.ref w_TRUE), .val (.ref w_FALSE), .val (.ref w_TRUE), .unset, .unset] [(.int (1 : Int32))]))
  refine own_st (fun t k => XS.ifYes X3.here hx rfl (pc0 := 47) (pc' := 54) rfl (hb hby at_47) rfl (by decide) (by decide) (by decide) k) ?_
  show own_Fin p e below _ (T3.setTop (mkF m 54 #[.val (.int p0), .val (.int (1 : Int32)), .val (.ref w_TRUE), .val (.ref w_FALSE), .val (.ref w_TRUE), .unset, .unset] []))
  refine own_st (fun t k => XS.iconst X3.here hx rfl (hb hby at_54) k) ?_
  show own_Fin p e below _ (T3.setTop (mkF m 55 #[.val (.int p0), .val (.int (1 : Int32)), .val (.ref w_TRUE), .val (.ref w_FALSE), .val (.ref w_TRUE), .unset, .unset] [(.int (0 : Int32))]))
  obtain ⟨_, _, ⟨T4, L4, k4, n4⟩, -, X4, ⟨Lc4, hQ4, l4, y4, z4⟩, st4⟩ := Jvm.LawKit.callS X3 hx (y := (⟨"com/example/loopwright/loopwright/solver/Term", "bool", "(Z)Lcom/example/loopwright/loopwright/solver/Term;"⟩ : MethodName)) hown (mvT hZ (hw _ (List.mem_of_getElem? (i := 5) rfl))) (mvT hZ (hw _ (List.mem_of_getElem? (i := 6) rfl))) (mvT hZ (hw _ (List.mem_of_getElem? (i := 1) rfl))) (mvT hZ (hw _ (List.mem_of_getElem? (i := 7) rfl))) (by decide) (backOf (W := 0) (rm1_0 l Z a0 hw [] w_FALSE w_TRUE w_BOOL w_FALSE_value w_TRUE_value h0 n0 (by exact ⟨S_FALSE, E_FALSE, S_TRUE, E_TRUE, S_BOOL, E_BOOL, F_FALSE_value, E_FALSE_value, F_TRUE_value, E_TRUE_value, F_FALSE_sort, F_FALSE_value_signum, D_FALSE_TRUE, F_TRUE_sort, F_TRUE_value_signum⟩)) hZ (hw _ (List.mem_of_getElem? (i := 7) rfl)) (hw _ (List.mem_of_getElem? (i := 1) rfl)) (by decide) (by decide)) (g := (mkF m 55 #[.val (.int p0), .val (.int (1 : Int32)), .val (.ref w_TRUE), .val (.ref w_FALSE), .val (.ref w_TRUE), .unset, .unset] [(.int (0 : Int32))])) rfl (by rw [hml]; rfl) (argsL := [(.int (0 : Int32))]) (rest := []) (lenOf pd__Z_Lcom_example_loopwright_loopwright_solver_Term_ rfl) rfl (by show 2 * 0 + _ ≤ _; exact Nat.le_of_eq rfl) (hb hby at_55) (fun _ _ => ⟨rfl, e3, (by decide : 0 + 0 ≤ _), (by decide : 0 + 0 ≤ _)⟩)
  dsimp only [Pt.U, Pt.locs, Pt.cells, Pt.slots] at X4 l4 y4 z4 st4 hQ4
  subst l4 y4 z4
  obtain ⟨rfl, N4q, e4⟩ := hQ4
  have N4 := Fr.app N3 N4q
  refine own_st st4 ?_
  show own_Fin p e below _ (T4.setTop (mkF m 58 #[.val (.int p0), .val (.int (1 : Int32)), .val (.ref w_TRUE), .val (.ref w_FALSE), .val (.ref w_TRUE), .unset, .unset] [(.ref w_FALSE)]))
  refine own_st (fun t k => XS.astore X4.here hx rfl (hb hby at_58) rfl rfl (l' := #[.val (.int p0), .val (.int (1 : Int32)), .val (.ref w_TRUE), .val (.ref w_FALSE), .val (.ref w_TRUE), .val (.ref w_FALSE), .unset]) rfl k) ?_
  show own_Fin p e below _ (T4.setTop (mkF m 60 #[.val (.int p0), .val (.int (1 : Int32)), .val (.ref w_TRUE), .val (.ref w_FALSE), .val (.ref w_TRUE), .val (.ref w_FALSE), .unset] []))
  refine own_st (fun t k => XS.aload X4.here hx rfl (hb hby at_60) rfl rfl k) ?_
  show own_Fin p e below _ (T4.setTop (mkF m 62 #[.val (.int p0), .val (.int (1 : Int32)), .val (.ref w_TRUE), .val (.ref w_FALSE), .val (.ref w_TRUE), .val (.ref w_FALSE), .unset] [(.ref w_TRUE)]))
  obtain ⟨_, _, ⟨T5, L5, k5, n5⟩, -, X5, ⟨Lc5, hQ5, l5, y5, z5⟩, st5⟩ := Jvm.LawKit.callS X4 hx (y := (⟨"com/example/loopwright/loopwright/solver/Term", "not", "(Lcom/example/loopwright/loopwright/solver/Term;)Lcom/example/loopwright/loopwright/solver/Term;"⟩ : MethodName)) hown (mvT hZ (hw _ (List.mem_of_getElem? (i := 10) rfl))) (mvT hZ (hw _ (List.mem_of_getElem? (i := 11) rfl))) (mvT hZ (hw _ (List.mem_of_getElem? (i := 1) rfl))) (mvT hZ (hw _ (List.mem_of_getElem? (i := 12) rfl))) (by decide) (backOf (W := 0) (rm2_w_TRUE l Z a0 hw [] w_FALSE w_TRUE w_BOOL w_FALSE_value w_TRUE_value h0 n0 (by exact ⟨S_FALSE, E_FALSE, S_TRUE, E_TRUE, S_BOOL, E_BOOL, F_FALSE_value, E_FALSE_value, F_TRUE_value, E_TRUE_value, F_FALSE_sort, F_FALSE_value_signum, D_FALSE_TRUE, F_TRUE_sort, F_TRUE_value_signum⟩)) hZ (hw _ (List.mem_of_getElem? (i := 12) rfl)) (hw _ (List.mem_of_getElem? (i := 1) rfl)) (by decide) (by decide)) (g := (mkF m 62 #[.val (.int p0), .val (.int (1 : Int32)), .val (.ref w_TRUE), .val (.ref w_FALSE), .val (.ref w_TRUE), .val (.ref w_FALSE), .unset] [(.ref w_TRUE)])) rfl (by rw [hml]; rfl) (argsL := [(.ref w_TRUE)]) (rest := []) (lenOf pd__Lcom_example_loopwright_loopwright_solver_Term__Lcom_example_loopwright_loopwright_solver_Term_ rfl) rfl (by show 2 * 0 + _ ≤ _; exact Nat.le_of_eq rfl) (hb hby at_62) (fun _ _ => ⟨rfl, e4, (by decide : 0 + 0 ≤ _), (by decide : 0 + 0 ≤ _)⟩)
  dsimp only [Pt.U, Pt.locs, Pt.cells, Pt.slots] at X5 l5 y5 z5 st5 hQ5
  subst l5 y5 z5
  obtain ⟨rfl, N5q, e5⟩ := hQ5
  have N5 := Fr.app N4 N5q
  refine own_st st5 ?_
  show own_Fin p e below _ (T5.setTop (mkF m 65 #[.val (.int p0), .val (.int (1 : Int32)), .val (.ref w_TRUE), .val (.ref w_FALSE), .val (.ref w_TRUE), .val (.ref w_FALSE), .unset] [(.ref w_FALSE)]))
  refine own_st (fun t k => XS.astore X5.here hx rfl (hb hby at_65) rfl rfl (l' := #[.val (.int p0), .val (.int (1 : Int32)), .val (.ref w_TRUE), .val (.ref w_FALSE), .val (.ref w_TRUE), .val (.ref w_FALSE), .val (.ref w_FALSE)]) rfl k) ?_
  show own_Fin p e below _ (T5.setTop (mkF m 67 #[.val (.int p0), .val (.int (1 : Int32)), .val (.ref w_TRUE), .val (.ref w_FALSE), .val (.ref w_TRUE), .val (.ref w_FALSE), .val (.ref w_FALSE)] []))
  refine own_st (fun t k => XS.aload X5.here hx rfl (hb hby at_67) rfl rfl k) ?_
  show own_Fin p e below _ (T5.setTop (mkF m 69 #[.val (.int p0), .val (.int (1 : Int32)), .val (.ref w_TRUE), .val (.ref w_FALSE), .val (.ref w_TRUE), .val (.ref w_FALSE), .val (.ref w_FALSE)] [(.ref w_TRUE)]))
  refine own_st (fun t k => XS.aloadN X5.here hx rfl (hb hby at_69) rfl rfl k) ?_
  show own_Fin p e below _ (T5.setTop (mkF m 70 #[.val (.int p0), .val (.int (1 : Int32)), .val (.ref w_TRUE), .val (.ref w_FALSE), .val (.ref w_TRUE), .val (.ref w_FALSE), .val (.ref w_FALSE)] [(.ref w_TRUE), (.ref w_TRUE)]))
  refine own_st (fun t k => Jvm.RoadKit.acmp (g := (mkF m 70 #[.val (.int p0), .val (.int (1 : Int32)), .val (.ref w_TRUE), .val (.ref w_FALSE), .val (.ref w_TRUE), .val (.ref w_FALSE), .val (.ref w_FALSE)] [(.ref w_TRUE), (.ref w_TRUE)])) X5 hx rfl rfl rfl (pc0 := 70) (pc' := 73) (same := true) rfl (hb hby at_70) rfl (decide_eq_true rfl) (by decide) (by decide) k) ?_
  show own_Fin p e below _ (T5.setTop (mkF m 73 #[.val (.int p0), .val (.int (1 : Int32)), .val (.ref w_TRUE), .val (.ref w_FALSE), .val (.ref w_TRUE), .val (.ref w_FALSE), .val (.ref w_FALSE)] []))
  refine own_st (fun t k => XS.aload X5.here hx rfl (hb hby at_73) rfl rfl k) ?_
  show own_Fin p e below _ (T5.setTop (mkF m 75 #[.val (.int p0), .val (.int (1 : Int32)), .val (.ref w_TRUE), .val (.ref w_FALSE), .val (.ref w_TRUE), .val (.ref w_FALSE), .val (.ref w_FALSE)] [(.ref w_TRUE)]))
  refine own_st (fun t k => XS.aloadN X5.here hx rfl (hb hby at_75) rfl rfl k) ?_
  show own_Fin p e below _ (T5.setTop (mkF m 76 #[.val (.int p0), .val (.int (1 : Int32)), .val (.ref w_TRUE), .val (.ref w_FALSE), .val (.ref w_TRUE), .val (.ref w_FALSE), .val (.ref w_FALSE)] [(.ref w_FALSE), (.ref w_TRUE)]))
  refine own_st (fun t k => Jvm.RoadKit.acmp (g := (mkF m 76 #[.val (.int p0), .val (.int (1 : Int32)), .val (.ref w_TRUE), .val (.ref w_FALSE), .val (.ref w_TRUE), .val (.ref w_FALSE), .val (.ref w_FALSE)] [(.ref w_FALSE), (.ref w_TRUE)])) X5 hx rfl rfl rfl (pc0 := 76) (pc' := 79) (same := false) rfl (hb hby at_76) rfl (decide_eq_false fun q => (Ne.symm D_FALSE_TRUE) (Value.ref.inj q)) (by decide) (by decide) k) ?_
  show own_Fin p e below _ (T5.setTop (mkF m 79 #[.val (.int p0), .val (.int (1 : Int32)), .val (.ref w_TRUE), .val (.ref w_FALSE), .val (.ref w_TRUE), .val (.ref w_FALSE), .val (.ref w_FALSE)] []))
  refine own_st (fun t k => XS.aload X5.here hx rfl (hb hby at_79) rfl rfl k) ?_
  show own_Fin p e below _ (T5.setTop (mkF m 81 #[.val (.int p0), .val (.int (1 : Int32)), .val (.ref w_TRUE), .val (.ref w_FALSE), .val (.ref w_TRUE), .val (.ref w_FALSE), .val (.ref w_FALSE)] [(.ref w_TRUE)]))
  obtain ⟨cq6, kq6, q6a, q6b, q6c⟩ := isOf hZ e5 E_TRUE
  obtain ⟨_, _, ⟨T6, L6, k6, n6⟩, -, X6, ⟨Lc6, hQ6, l6, y6, z6⟩, st6⟩ := X5.interfaceBack hx (xi := (⟨"com/example/loopwright/loopwright/solver/Term", "sort", "()Lcom/example/loopwright/loopwright/solver/Sort;"⟩ : MethodName)) (y := (⟨"com/example/loopwright/loopwright/solver/Term$Constant", "sort", "()Lcom/example/loopwright/loopwright/solver/Sort;"⟩ : MethodName)) hown (mvT hZ (hw _ (List.mem_of_getElem? (i := 49) rfl))) (mvT hZ (hw _ (List.mem_of_getElem? (i := 20) rfl))) (mvT hZ (hw _ (List.mem_of_getElem? (i := 21) rfl))) (mvT hZ (hw _ (List.mem_of_getElem? (i := 22) rfl))) (mvT hZ (hw _ (List.mem_of_getElem? (i := 23) rfl))) (mvT hZ (hw _ (List.mem_of_getElem? (i := 24) rfl))) (mvT hZ (hw _ (List.mem_of_getElem? (i := 25) rfl))) (mvT hZ (hw _ (List.mem_of_getElem? (i := 26) rfl))) (by decide) (backOf (W := 0) (rm4_w_TRUE l Z a0 hw [] w_FALSE w_TRUE w_BOOL w_FALSE_value w_TRUE_value h0 n0 (by exact ⟨S_FALSE, E_FALSE, S_TRUE, E_TRUE, S_BOOL, E_BOOL, F_FALSE_value, E_FALSE_value, F_TRUE_value, E_TRUE_value, F_FALSE_sort, F_FALSE_value_signum, D_FALSE_TRUE, F_TRUE_sort, F_TRUE_value_signum⟩)) hZ (hw _ (List.mem_of_getElem? (i := 28) rfl)) (hw _ (List.mem_of_getElem? (i := 27) rfl)) (by decide) (by decide)) q6a q6b q6c (g := (mkF m 81 #[.val (.int p0), .val (.int (1 : Int32)), .val (.ref w_TRUE), .val (.ref w_FALSE), .val (.ref w_TRUE), .val (.ref w_FALSE), .val (.ref w_FALSE)] [(.ref w_TRUE)])) rfl (by rw [hml]; rfl) (Steps.refl _) (argsL := []) (rest := []) (lenOf pd___Lcom_example_loopwright_loopwright_solver_Sort_ rfl) rfl (by show 2 * 0 + _ ≤ _; exact Nat.le_of_eq rfl) (hb hby at_81) (fun _ _ => ⟨rfl, e5, (by decide : 0 + 0 ≤ _), (by decide : 0 + 0 ≤ _)⟩)
  dsimp only [Pt.U, Pt.locs, Pt.cells, Pt.slots] at X6 l6 y6 z6 st6 hQ6
  subst l6 y6 z6
  obtain ⟨rfl, N6q, e6⟩ := hQ6
  have N6 := Fr.app N5 N6q
  refine own_tr st6 ?_
  show own_Fin p e below _ (T6.setTop (mkF m 86 #[.val (.int p0), .val (.int (1 : Int32)), .val (.ref w_TRUE), .val (.ref w_FALSE), .val (.ref w_TRUE), .val (.ref w_FALSE), .val (.ref w_FALSE)] [(.ref w_BOOL)]))
  obtain ⟨T7, X7, e7, st7⟩ := getS2 X6 hx hZ hown (host := "") (Or.inl (hw _ (List.mem_of_getElem? (i := 50) rfl))) Via.refl e6 S_BOOL (g := (mkF m 86 #[.val (.int p0), .val (.int (1 : Int32)), .val (.ref w_TRUE), .val (.ref w_FALSE), .val (.ref w_TRUE), .val (.ref w_FALSE), .val (.ref w_FALSE)] [(.ref w_BOOL)])) rfl (hb hby at_86)
  refine own_st st7 ?_
  show own_Fin p e below _ (T7.setTop (mkF m 89 #[.val (.int p0), .val (.int (1 : Int32)), .val (.ref w_TRUE), .val (.ref w_FALSE), .val (.ref w_TRUE), .val (.ref w_FALSE), .val (.ref w_FALSE)] [(.ref w_BOOL), (.ref w_BOOL)]))
  refine own_st (fun t k => Jvm.RoadKit.acmp (g := (mkF m 89 #[.val (.int p0), .val (.int (1 : Int32)), .val (.ref w_TRUE), .val (.ref w_FALSE), .val (.ref w_TRUE), .val (.ref w_FALSE), .val (.ref w_FALSE)] [(.ref w_BOOL), (.ref w_BOOL)])) X7 hx rfl rfl rfl (pc0 := 89) (pc' := 92) (same := true) rfl (hb hby at_89) rfl (decide_eq_true rfl) (by decide) (by decide) k) ?_
  show own_Fin p e below _ (T7.setTop (mkF m 92 #[.val (.int p0), .val (.int (1 : Int32)), .val (.ref w_TRUE), .val (.ref w_FALSE), .val (.ref w_TRUE), .val (.ref w_FALSE), .val (.ref w_FALSE)] []))
  refine own_st (fun t k => XS.aload X7.here hx rfl (hb hby at_92) rfl rfl k) ?_
  show own_Fin p e below _ (T7.setTop (mkF m 94 #[.val (.int p0), .val (.int (1 : Int32)), .val (.ref w_TRUE), .val (.ref w_FALSE), .val (.ref w_TRUE), .val (.ref w_FALSE), .val (.ref w_FALSE)] [(.ref w_FALSE)]))
  refine own_st (fun t k => XS.aloadN X7.here hx rfl (hb hby at_94) rfl rfl k) ?_
  show own_Fin p e below _ (T7.setTop (mkF m 95 #[.val (.int p0), .val (.int (1 : Int32)), .val (.ref w_TRUE), .val (.ref w_FALSE), .val (.ref w_TRUE), .val (.ref w_FALSE), .val (.ref w_FALSE)] [(.ref w_FALSE), (.ref w_FALSE)]))
  refine own_st (fun t k => Jvm.RoadKit.acmp (g := (mkF m 95 #[.val (.int p0), .val (.int (1 : Int32)), .val (.ref w_TRUE), .val (.ref w_FALSE), .val (.ref w_TRUE), .val (.ref w_FALSE), .val (.ref w_FALSE)] [(.ref w_FALSE), (.ref w_FALSE)])) X7 hx rfl rfl rfl (pc0 := 95) (pc' := 98) (same := true) rfl (hb hby at_95) rfl (decide_eq_true rfl) (by decide) (by decide) k) ?_
  show own_Fin p e below _ (T7.setTop (mkF m 98 #[.val (.int p0), .val (.int (1 : Int32)), .val (.ref w_TRUE), .val (.ref w_FALSE), .val (.ref w_TRUE), .val (.ref w_FALSE), .val (.ref w_FALSE)] []))
  refine own_st (fun t k => XS.aload X7.here hx rfl (hb hby at_98) rfl rfl k) ?_
  show own_Fin p e below _ (T7.setTop (mkF m 100 #[.val (.int p0), .val (.int (1 : Int32)), .val (.ref w_TRUE), .val (.ref w_FALSE), .val (.ref w_TRUE), .val (.ref w_FALSE), .val (.ref w_FALSE)] [(.ref w_FALSE)]))
  refine own_st (fun t k => XS.aloadN X7.here hx rfl (hb hby at_100) rfl rfl k) ?_
  show own_Fin p e below _ (T7.setTop (mkF m 101 #[.val (.int p0), .val (.int (1 : Int32)), .val (.ref w_TRUE), .val (.ref w_FALSE), .val (.ref w_TRUE), .val (.ref w_FALSE), .val (.ref w_FALSE)] [(.ref w_FALSE), (.ref w_FALSE)]))
  refine own_st (fun t k => Jvm.RoadKit.acmp (g := (mkF m 101 #[.val (.int p0), .val (.int (1 : Int32)), .val (.ref w_TRUE), .val (.ref w_FALSE), .val (.ref w_TRUE), .val (.ref w_FALSE), .val (.ref w_FALSE)] [(.ref w_FALSE), (.ref w_FALSE)])) X7 hx rfl rfl rfl (pc0 := 101) (pc' := 104) (same := true) rfl (hb hby at_101) rfl (decide_eq_true rfl) (by decide) (by decide) k) ?_
  show own_Fin p e below _ (T7.setTop (mkF m 104 #[.val (.int p0), .val (.int (1 : Int32)), .val (.ref w_TRUE), .val (.ref w_FALSE), .val (.ref w_TRUE), .val (.ref w_FALSE), .val (.ref w_FALSE)] []))
  refine own_st (fun t k => XS.iconst X7.here hx rfl (hb hby at_104) k) ?_
  show own_Fin p e below _ (T7.setTop (mkF m 105 #[.val (.int p0), .val (.int (1 : Int32)), .val (.ref w_TRUE), .val (.ref w_FALSE), .val (.ref w_TRUE), .val (.ref w_FALSE), .val (.ref w_FALSE)] [(.int (1 : Int32))]))
  refine own_st (fun t k => XS.goto X7.here hx rfl (pc0 := 105) (pc' := 109) rfl (hb hby at_105) (by decide) (by decide) k) ?_
  show own_Fin p e below _ (T7.setTop (mkF m 109 #[.val (.int p0), .val (.int (1 : Int32)), .val (.ref w_TRUE), .val (.ref w_FALSE), .val (.ref w_TRUE), .val (.ref w_FALSE), .val (.ref w_FALSE)] [(.int (1 : Int32))]))
  obtain ⟨fs, hr, hrun, hended, hW, hsame⟩ := X7.leave (v := some (.int (1 : Int32))) (fun h => by rw [Bd.returns] at h; cases h)
  exact ⟨_, _, retN X7 hx (t := .boolean) Bd.returns (by simp) (hb hby at_109) hr, hrun, hended, _, _, rfl, ⟨rfl, N6, e7⟩, ⟨_, rfl⟩, hW, hsame.mono (by decide) (by decide)⟩
theorem rm0 (l : Launch) (Z : State) (a0 : Array Value) (hw : ∀ d ∈ tables_1, d.before a0 Z = true) (ws : List Jvm.Cond) (w_FALSE w_TRUE w_BOOL w_FALSE_value w_TRUE_value : Addr) (p0 : Int32) (h0 : Heap) (n0 : Nat) (PN : own_Pins Z h0 w_FALSE w_TRUE w_BOOL w_FALSE_value w_TRUE_value) :
    MetFree l x (head1 (Jvm.Cond.code x code maxLocals ret :: ws) room_1) (fun a U => a = #[(.int p0)] ∧ Z.Warmed39 U.vm ∧ U.heap = h0) (fun _ _ _ _ _ => True) (fun _ U o U' => ∃ v L, o = .returned v ∧ own_Q h0 n0 (some (.int (1 : Int32))) v U'.heap L ∧ FrameEnd U o U' L room_1.cells room_1.slots) := by
  rcases own_mask2 p0 with q0 | q0
  ·
    exact rm0_c0 l Z a0 hw ws w_FALSE w_TRUE w_BOOL w_FALSE_value w_TRUE_value p0 h0 n0 PN q0
  ·
    exact rm0_c1 l Z a0 hw ws w_FALSE w_TRUE w_BOOL w_FALSE_value w_TRUE_value p0 h0 n0 PN q0
set_option maxRecDepth 65536 in
set_option maxHeartbeats 40000000 in
theorem comes_1 {Post : Tables → Env → Array Value → State → Outcome → State → Prop} (hpost : ∀ tb e args s v u, (limb_1_1.after args s (.returned v) u = true ∧ limb_1_2.after args s (.returned v) u = true ∧ True) → FrameEnd s (.returned v) u (Jvm.fieldLocs frame_1_writes args s ++ Jvm.arrayLocs frame_1_arrays args s ++ Jvm.staticLocs frame_1_statics s) 0 0 → Post tb e args s (.returned v) u) :
    ArmFor flags0 classFile x code maxLocals ret World_1 tables_1 room_1 Calls_1 rest_1 Pre_1 Post := by
  intro l hfl _ _ p e ha hc hk s m args below hf hA hF happ hP
  obtain ⟨hcalls, hrest, hpre⟩ := hP
  obtain ⟨-, -, -, hnamed, -, -, -, hat⟩ := (Spec.applies_iff hf).mp happ
  obtain ⟨hg, hn⟩ := and_e (Cond.before_iff.mp (show (Jvm.Cond.and given_1 narrow_1).before args s = true from hpre))
  obtain ⟨hgl, hgr⟩ := and_e hg
  obtain ⟨v0, rfl⟩ : ∃ v0 : Value, args = #[v0] := by
    have hs : args.size = 1 := by simpa [Cond.value, given_1] using hgl
    obtain ⟨L⟩ := args
    match L, hs with
    | [v0], _ => exact ⟨v0, rfl⟩
  have hw := fun d (hd : d ∈ tables_1) => atoms_spec (ws := Jvm.Cond.code x code maxLocals ret :: tables_1) hat d (List.mem_cons_of_mem _ hd)
  have hfit : Fit s := fun {y c} hc i hi => by
    obtain ⟨ha, rfl⟩ := Array.getElem?_eq_some_iff.mp hc
    have q := List.all_eq_true.mp ((Array.all_eq_true_iff_forall_mem.mp hF) _ (Array.getElem_mem ha)) i (List.mem_range.mpr hi)
    simpa [Array.getElem?_eq_getElem hi] using q
  obtain ⟨p0, ei0⟩ := is_v hgr
  obtain rfl : v0 = (.int p0) := Option.some.inj ei0
  obtain ⟨hnl, hnr⟩ := and_e hn
  obtain ⟨hnrl, hnrr⟩ := and_e hnr
  obtain ⟨hnrrl, hnrrr⟩ := and_e hnrr
  obtain ⟨hnrrrl, hnrrrr⟩ := and_e hnrrr
  obtain ⟨hnrrrrl, hnrrrrr⟩ := and_e hnrrrr
  obtain ⟨hnrrrrrl, hnrrrrrr⟩ := and_e hnrrrrr
  obtain ⟨hnrrrrrrl, hnrrrrrrr⟩ := and_e hnrrrrrr
  obtain ⟨hnrrrrrrrl, hnrrrrrrrr⟩ := and_e hnrrrrrrr
  obtain ⟨hnrrrrrrrrl, hnrrrrrrrrr⟩ := and_e hnrrrrrrrr
  obtain ⟨w_FALSE, ev_FALSE⟩ := exa_v hnl
  have S_FALSE := Sta.start ev_FALSE (Or.inr ⟨(hw _ (List.mem_of_getElem? (i := 1) rfl)), (hw _ (List.mem_of_getElem? (i := 2) rfl))⟩)
  have E_FALSE := Exa.start ev_FALSE hnl
  obtain ⟨w_TRUE, ev_TRUE⟩ := exa_v hnrl
  have S_TRUE := Sta.start ev_TRUE (Or.inr ⟨(hw _ (List.mem_of_getElem? (i := 1) rfl)), (hw _ (List.mem_of_getElem? (i := 4) rfl))⟩)
  have E_TRUE := Exa.start ev_TRUE hnrl
  obtain ⟨w_BOOL, ev_BOOL⟩ := exa_v hnrrl
  have S_BOOL := Sta.start ev_BOOL (Or.inr ⟨(hw _ (List.mem_of_getElem? (i := 14) rfl)), (hw _ (List.mem_of_getElem? (i := 15) rfl))⟩)
  have E_BOOL := Exa.start ev_BOOL hnrrl
  obtain ⟨w_FALSE_value, ev_FALSE_value⟩ := exa_v hnrrrrl
  have F_FALSE_value := Fld.start ((fld_at ev_FALSE).symm.trans ev_FALSE_value)
  have E_FALSE_value := Exa.start ev_FALSE_value hnrrrrl
  obtain ⟨w_TRUE_value, ev_TRUE_value⟩ := exa_v hnrrrrrrrrl
  have F_TRUE_value := Fld.start ((fld_at ev_TRUE).symm.trans ev_TRUE_value)
  have E_TRUE_value := Exa.start ev_TRUE_value hnrrrrrrrrl
  have F_FALSE_sort := own_fldR ev_FALSE ev_BOOL hnrrrl
  have F_FALSE_value_signum := own_fld ev_FALSE_value hnrrrrrl
  have D_FALSE_TRUE := own_differ ev_FALSE ev_TRUE hnrrrrrrl
  have F_TRUE_sort := own_fldR ev_TRUE ev_BOOL hnrrrrrrrl
  have F_TRUE_value_signum := own_fld ev_TRUE_value hnrrrrrrrrr
  obtain ⟨n, o, h1, h2, h3, _, L, rfl, ⟨rfl, N, -⟩, hq⟩ := rm0 l s _ hw tables_1 w_FALSE w_TRUE w_BOOL w_FALSE_value w_TRUE_value p0 s.heap s.heap.size (by exact ⟨S_FALSE, E_FALSE, S_TRUE, E_TRUE, S_BOOL, E_BOOL, F_FALSE_value, E_FALSE_value, F_TRUE_value, E_TRUE_value, F_FALSE_sort, F_FALSE_value_signum, D_FALSE_TRUE, F_TRUE_sort, F_TRUE_value_signum⟩) p e ha hc hk s m _ below hf ((Spec.applies_iff_loose hf).mp happ).1 ⟨rfl, State.Warmed39.refl s, rfl⟩ trivial
  refine ⟨n, _, h1, h2, h3, hpost _ _ _ _ _ _ ⟨Cond.after_iff.mpr rfl, Cond.after_iff.mpr (eq_i res_at (Term.int_eval (1)) rfl), trivial⟩ ⟨hq.1, hq.2.1, (hq.2.2.sift fun y hy => Or.inr (N y hy)).mono (by decide) (by decide)⟩⟩
theorem main_1_1 : Claimed_1_1 := comes_1 fun _ _ _ _ _ _ h hF => ⟨h.1, hF⟩
theorem main_1_2 : Claimed_1_2 := comes_1 fun _ _ _ _ _ _ h hF => ⟨h.2.1, hF⟩
end Jvm.Pilot.@@N@@
namespace Jvm.Pilot.@@N@@
open Jvm Jvm.ClassFile Sem Op Lib Jvm.Free Jvm.Stand Jvm.Pilot.@@N@@.Jvm.D
/-! MADE BY PROGRAM (witnessworld.py) out of the Statement's table words and the real class files: 17 classes; the members and pool entries that the words name. The judged class is class 1, her method 1. -/
namespace start1
open Jvm.ClassFile
def u (s : String) : CpInfo := .utf8 (stringToUtf16 s)
/-- a pool by its gaps: so many unusable entries, then the entry; so many at the end -/
def gap : Nat → List CpInfo → List CpInfo
  | 0, r => r
  | n + 1, r => .unusable :: gap n r
def poolList (es : List (Nat × CpInfo)) (last : Nat) : List CpInfo := es.foldr (fun e r => gap e.1 (e.2 :: r)) (gap last [])
def pool (es : List (Nat × CpInfo)) (last : Nat) : Array CpInfo := ⟨poolList es last⟩
def fileOf (pool : Array CpInfo) (this : Nat) (attrs : Array Attribute := #[]) (ms : Array MethodInfo := #[]) (fl : Nat := 33) (sup : Nat := 0) (ifs : Array Nat := #[]) (fds : Array FieldInfo := #[]) : ClassFile where
  minorVersion := 0
  majorVersion := 65
  constantPool := pool
  accessFlags := fl
  thisClass := this
  superClass := sup
  interfaces := ifs
  fields := fds
  methods := ms
  attributes := attrs
def plain (name : String) (sup : Option ClassId) : Class where
  name := name
  kind := .ordinary
  loader := none
  accessFlags := 33
  super := sup
  interfaces := #[]
  cf := none
  fields := #[]
  methods := #[]
  instanceTypes := #[]
  staticTypes := #[]
  resolved := #[]
  callSites := []
  init := .initialized
  statics := none
  mirror := none

def pool0 : Array CpInfo := pool [(5, u "<init>"), (0, u "()V"), (1, .class_ 10), (1, u "java/lang/Object")] 113

def k0m0 : Method := { name := "<init>", desc := "()V", sig := { parameters := [], returnType := none }, accessFlags := 1, code := none }
/-- java/lang/Object -/
def k0 : Class := { plain "java/lang/Object" none with
  accessFlags := 33
  interfaces := #[]
  cf := some (fileOf pool0 8 #[] #[{ accessFlags := 1, nameIndex := 5, descriptorIndex := 6, attributes := #[] }] 33 0 #[] #[])
  fields := #[]
  methods := #[k0m0]
  instanceTypes := #[]
  staticTypes := #[]
  resolved := Array.replicate 124 none
  statics := none }

def pool1 : Array CpInfo := pool [(2, .class_ 4), (1, u "java/lang/Object"), (0, u "<init>"), (0, u "()V"), (0, .fieldref 8 9), (0, .class_ 10), (0, .nameAndType 11 12), (0, u "com/example/loopwright/loopwright/solver/Term"), (0, u "TRUE"), (0, u "Lcom/example/loopwright/loopwright/solver/Term;"), (0, .fieldref 8 14), (0, .nameAndType 15 12), (0, u "FALSE"), (0, .interfaceMethodref 8 17), (0, .nameAndType 18 19), (0, u "bool"), (0, u "(Z)Lcom/example/loopwright/loopwright/solver/Term;"), (0, .interfaceMethodref 8 21), (0, .nameAndType 22 23), (0, u "not"), (0, u "(Lcom/example/loopwright/loopwright/solver/Term;)Lcom/example/loopwright/loopwright/solver/Term;"), (0, .interfaceMethodref 8 25), (0, .nameAndType 26 27), (0, u "sort"), (0, u "()Lcom/example/loopwright/loopwright/solver/Sort;"), (0, .fieldref 29 30), (0, .class_ 31), (0, .nameAndType 32 33), (0, u "com/example/loopwright/loopwright/solver/Sort"), (0, u "BOOL"), (0, u "Lcom/example/loopwright/loopwright/solver/Sort;"), (0, .class_ 35), (0, u "com/example/loopwright/loopwright/solver/TermBoolPinLaw"), (2, u "law"), (0, u "(I)Z")] 3

def k1m0 : Method := { name := "<init>", desc := "()V", sig := { parameters := [], returnType := none }, accessFlags := 2, code := none }
def k1c1 : Code := { maxStack := 2, maxLocals := 7, code := code, exceptionTable := #[], attributes := #[] }
def k1m1 : Method := { name := "law", desc := "(I)Z", sig := { parameters := [.int], returnType := some .boolean }, accessFlags := 9, code := some k1c1 }
/-- com/example/loopwright/loopwright/solver/TermBoolPinLaw -/
def k1 : Class := { plain "com/example/loopwright/loopwright/solver/TermBoolPinLaw" (some 0) with
  accessFlags := 49
  interfaces := #[]
  cf := some (fileOf pool1 34 #[] #[{ accessFlags := 2, nameIndex := 5, descriptorIndex := 6, attributes := #[] }, { accessFlags := 9, nameIndex := 38, descriptorIndex := 39, attributes := #[] }] 49 2 #[] #[])
  fields := #[]
  methods := #[k1m0, k1m1]
  instanceTypes := #[]
  staticTypes := #[]
  resolved := Array.replicate 43 none
  statics := none }

def pool2 : Array CpInfo := pool [(2, .class_ 4), (1, u "java/math/BigInteger"), (3, .class_ 10), (1, u "com/example/loopwright/loopwright/solver/Term"), (2, .class_ 14), (0, u "com/example/loopwright/loopwright/solver/Term$Constant"), (1, .class_ 18), (1, u "com/example/loopwright/loopwright/solver/Sort"), (1, u "Lcom/example/loopwright/loopwright/solver/Sort;"), (7, .fieldref 8 29), (0, .nameAndType 30 31), (0, u "TRUE"), (0, u "Lcom/example/loopwright/loopwright/solver/Term;"), (0, .fieldref 8 33), (0, .nameAndType 34 31), (0, u "FALSE"), (0, .class_ 36), (0, u "com/example/loopwright/loopwright/solver/Term$Symbol"), (7, .methodref 13 45), (0, .nameAndType 46 47), (0, u "value"), (0, u "()Ljava/math/BigInteger;"), (17, .class_ 67), (1, u "com/example/loopwright/loopwright/solver/Term$Application"), (38, u "()I"), (7, .interfaceMethodref 8 115), (0, .nameAndType 116 117), (0, u "requireSort"), (0, u "(Lcom/example/loopwright/loopwright/solver/Sort;Lcom/example/loopwright/loopwright/solver/Term;Lcom/example/loopwright/loopwright/solver/Term;)V"), (8, .interfaceMethodref 8 127), (0, .nameAndType 128 129), (0, u "bool"), (0, u "(Z)Lcom/example/loopwright/loopwright/solver/Term;"), (2, .fieldref 16 133), (0, .nameAndType 134 20), (0, u "BOOL"), (2, .interfaceMethodref 8 138), (0, .nameAndType 139 140), (0, u "sort"), (0, u "()Lcom/example/loopwright/loopwright/solver/Sort;"), (15, .methodref 2 157), (0, .nameAndType 158 106), (0, u "signum"), (1, u "not"), (82, u "(Lcom/example/loopwright/loopwright/solver/Term;)Lcom/example/loopwright/loopwright/solver/Term;"), (44, .class_ 289), (0, u "java/lang/Object"), (0, u "MAX_DEPTH"), (0, u "I"), (2, u "MAX_CONSTANT_BITS")] 66

def k2m0 : Method := { name := "sort", desc := "()Lcom/example/loopwright/loopwright/solver/Sort;", sig := { parameters := [], returnType := some (.object "com/example/loopwright/loopwright/solver/Sort") }, accessFlags := 1025, code := none }
def k2c1 : Code := { maxStack := 1, maxLocals := 1, code := prog_96_method_6_code, exceptionTable := #[], attributes := #[] }
def k2m1 : Method := { name := "bool", desc := "(Z)Lcom/example/loopwright/loopwright/solver/Term;", sig := { parameters := [.boolean], returnType := some (.object "com/example/loopwright/loopwright/solver/Term") }, accessFlags := 9, code := some k2c1 }
def k2c2 : Code := { maxStack := 3, maxLocals := 4, code := prog_96_method_17_code, exceptionTable := #[], attributes := #[] }
def k2m2 : Method := { name := "not", desc := "(Lcom/example/loopwright/loopwright/solver/Term;)Lcom/example/loopwright/loopwright/solver/Term;", sig := { parameters := [(.object "com/example/loopwright/loopwright/solver/Term")], returnType := some (.object "com/example/loopwright/loopwright/solver/Term") }, accessFlags := 9, code := some k2c2 }
def k2c3 : Code := { maxStack := 5, maxLocals := 3, code := prog_96_method_31_code, exceptionTable := #[], attributes := #[] }
def k2m3 : Method := { name := "requireSort", desc := "(Lcom/example/loopwright/loopwright/solver/Sort;Lcom/example/loopwright/loopwright/solver/Term;Lcom/example/loopwright/loopwright/solver/Term;)V", sig := { parameters := [(.object "com/example/loopwright/loopwright/solver/Sort"), (.object "com/example/loopwright/loopwright/solver/Term"), (.object "com/example/loopwright/loopwright/solver/Term")], returnType := none }, accessFlags := 10, code := some k2c3 }
/-- com/example/loopwright/loopwright/solver/Term -/
def k2 : Class := { plain "com/example/loopwright/loopwright/solver/Term" (some 0) with
  accessFlags := 1537
  interfaces := #[]
  cf := some (fileOf pool2 8 #[.nestMembers #[65, 35, 13]] #[{ accessFlags := 1025, nameIndex := 139, descriptorIndex := 140, attributes := #[] }, { accessFlags := 9, nameIndex := 128, descriptorIndex := 129, attributes := #[] }, { accessFlags := 9, nameIndex := 160, descriptorIndex := 243, attributes := #[] }, { accessFlags := 10, nameIndex := 116, descriptorIndex := 117, attributes := #[] }] 1537 288 #[] #[{ accessFlags := 25, nameIndex := 290, descriptorIndex := 291, attributes := #[] }, { accessFlags := 25, nameIndex := 294, descriptorIndex := 291, attributes := #[] }, { accessFlags := 25, nameIndex := 30, descriptorIndex := 31, attributes := #[] }, { accessFlags := 25, nameIndex := 34, descriptorIndex := 31, attributes := #[] }])
  fields := #[{ name := "MAX_DEPTH", type := .int, accessFlags := 25, slot := 0, constantValue := 0 }, { name := "MAX_CONSTANT_BITS", type := .int, accessFlags := 25, slot := 1, constantValue := 0 }, { name := "TRUE", type := (.object "com/example/loopwright/loopwright/solver/Term"), accessFlags := 25, slot := 2, constantValue := 0 }, { name := "FALSE", type := (.object "com/example/loopwright/loopwright/solver/Term"), accessFlags := 25, slot := 3, constantValue := 0 }]
  methods := #[k2m0, k2m1, k2m2, k2m3]
  instanceTypes := #[]
  staticTypes := #[.int, .int, (.object "com/example/loopwright/loopwright/solver/Term"), (.object "com/example/loopwright/loopwright/solver/Term")]
  resolved := Array.replicate 361 none
  statics := some 0 }

def pool3 : Array CpInfo := pool [(1, .class_ 2), (0, u "java/lang/constant/Constable"), (0, .class_ 4), (0, u "java/lang/Object")] 6

/-- java/lang/constant/Constable -/
def k3 : Class := { plain "java/lang/constant/Constable" (some 0) with
  accessFlags := 1537
  interfaces := #[]
  cf := some (fileOf pool3 1 #[] #[] 1537 3 #[] #[])
  fields := #[]
  methods := #[]
  instanceTypes := #[]
  staticTypes := #[]
  resolved := Array.replicate 11 none
  statics := none }

def pool4 : Array CpInfo := pool [(1, .class_ 2), (0, u "java/lang/Comparable"), (0, .class_ 4), (0, u "java/lang/Object")] 7

/-- java/lang/Comparable -/
def k4 : Class := { plain "java/lang/Comparable" (some 0) with
  accessFlags := 1537
  interfaces := #[]
  cf := some (fileOf pool4 1 #[] #[] 1537 3 #[] #[])
  fields := #[]
  methods := #[]
  instanceTypes := #[]
  staticTypes := #[]
  resolved := Array.replicate 12 none
  statics := none }

def pool5 : Array CpInfo := pool [(1, .class_ 2), (0, u "java/io/Serializable"), (0, .class_ 4), (0, u "java/lang/Object")] 2

/-- java/io/Serializable -/
def k5 : Class := { plain "java/io/Serializable" (some 0) with
  accessFlags := 1537
  interfaces := #[]
  cf := some (fileOf pool5 1 #[] #[] 1537 3 #[] #[])
  fields := #[]
  methods := #[]
  instanceTypes := #[]
  staticTypes := #[]
  resolved := Array.replicate 7 none
  statics := none }

def pool6 : Array CpInfo := pool [(2, .class_ 4), (1, u "java/lang/Enum"), (0, u "name"), (0, u "Ljava/lang/String;"), (2, u "ordinal"), (0, u "I"), (1, .class_ 14), (1, u "java/lang/Object"), (4, u "hash"), (86, .class_ 108), (1, u "java/lang/Enum$EnumDesc"), (2, .class_ 112), (0, u "java/lang/constant/Constable"), (0, .class_ 114), (0, u "java/lang/Comparable"), (0, .class_ 116), (0, u "java/io/Serializable")] 87

/-- java/lang/Enum -/
def k6 : Class := { plain "java/lang/Enum" (some 0) with
  accessFlags := 1057
  interfaces := #[3, 4, 5]
  cf := some (fileOf pool6 2 #[.nestMembers #[106]] #[] 1057 12 #[111, 113, 115] #[{ accessFlags := 18, nameIndex := 5, descriptorIndex := 6, attributes := #[] }, { accessFlags := 18, nameIndex := 9, descriptorIndex := 10, attributes := #[] }, { accessFlags := 2, nameIndex := 19, descriptorIndex := 10, attributes := #[] }])
  fields := #[{ name := "name", type := (.object "java/lang/String"), accessFlags := 18, slot := 0, constantValue := 0 }, { name := "ordinal", type := .int, accessFlags := 18, slot := 1, constantValue := 0 }, { name := "hash", type := .int, accessFlags := 2, slot := 2, constantValue := 0 }]
  methods := #[]
  instanceTypes := #[(.object "java/lang/String"), .int, .int]
  staticTypes := #[]
  resolved := Array.replicate 204 none
  statics := none }

def pool7 : Array CpInfo := pool [(1, .class_ 2), (0, u "com/example/loopwright/loopwright/solver/Sort"), (2, u "INT"), (0, u "Lcom/example/loopwright/loopwright/solver/Sort;"), (2, u "REAL"), (2, u "BOOL"), (2, u "$VALUES"), (0, u "[Lcom/example/loopwright/loopwright/solver/Sort;"), (6, .class_ 25), (1, u "java/lang/Enum"), (8, u "name"), (0, u "Ljava/lang/String;")] 30

/-- com/example/loopwright/loopwright/solver/Sort -/
def k7 : Class := { plain "com/example/loopwright/loopwright/solver/Sort" (some 6) with
  accessFlags := 16433
  interfaces := #[]
  cf := some (fileOf pool7 1 #[] #[] 16433 23 #[] #[{ accessFlags := 16409, nameIndex := 5, descriptorIndex := 6, attributes := #[] }, { accessFlags := 16409, nameIndex := 9, descriptorIndex := 6, attributes := #[] }, { accessFlags := 16409, nameIndex := 12, descriptorIndex := 6, attributes := #[] }, { accessFlags := 18, nameIndex := 34, descriptorIndex := 35, attributes := #[] }, { accessFlags := 4122, nameIndex := 15, descriptorIndex := 16, attributes := #[] }])
  fields := #[{ name := "INT", type := (.object "com/example/loopwright/loopwright/solver/Sort"), accessFlags := 16409, slot := 0, constantValue := 0 }, { name := "REAL", type := (.object "com/example/loopwright/loopwright/solver/Sort"), accessFlags := 16409, slot := 1, constantValue := 0 }, { name := "BOOL", type := (.object "com/example/loopwright/loopwright/solver/Sort"), accessFlags := 16409, slot := 2, constantValue := 0 }, { name := "name", type := (.object "java/lang/String"), accessFlags := 18, slot := 3, constantValue := 0 }, { name := "$VALUES", type := (.array (.object "com/example/loopwright/loopwright/solver/Sort")), accessFlags := 4122, slot := 3, constantValue := 0 }]
  methods := #[]
  instanceTypes := #[(.object "java/lang/String"), .int, .int, (.object "java/lang/String")]
  staticTypes := #[(.object "com/example/loopwright/loopwright/solver/Sort"), (.object "com/example/loopwright/loopwright/solver/Sort"), (.object "com/example/loopwright/loopwright/solver/Sort"), (.array (.object "com/example/loopwright/loopwright/solver/Sort"))]
  resolved := Array.replicate 66 none
  statics := some 1 }

def pool8 : Array CpInfo := pool [(2, .class_ 4), (1, u "java/lang/Object"), (0, u "<init>"), (0, u "()V"), (0, .class_ 8), (0, u "java/lang/Record")] 13

def k8m0 : Method := { name := "<init>", desc := "()V", sig := { parameters := [], returnType := none }, accessFlags := 4, code := none }
/-- java/lang/Record -/
def k8 : Class := { plain "java/lang/Record" (some 0) with
  accessFlags := 1057
  interfaces := #[]
  cf := some (fileOf pool8 7 #[] #[{ accessFlags := 4, nameIndex := 5, descriptorIndex := 6, attributes := #[] }] 1057 2 #[] #[])
  fields := #[]
  methods := #[k8m0]
  instanceTypes := #[]
  staticTypes := #[]
  resolved := Array.replicate 22 none
  statics := none }

def pool9 : Array CpInfo := pool [(2, .class_ 4), (1, u "java/lang/Record"), (8, .class_ 14), (0, u "com/example/loopwright/loopwright/solver/Term"), (10, .fieldref 26 27), (0, .class_ 28), (0, .nameAndType 29 30), (0, u "com/example/loopwright/loopwright/solver/Term$Constant"), (0, u "value"), (0, u "Ljava/math/BigInteger;"), (0, .fieldref 26 32), (0, .nameAndType 33 34), (0, u "sort"), (0, u "Lcom/example/loopwright/loopwright/solver/Sort;"), (26, u "()Ljava/math/BigInteger;"), (0, u "()Lcom/example/loopwright/loopwright/solver/Sort;")] 31

def k9c0 : Code := { maxStack := 1, maxLocals := 1, code := prog_98_method_6_code, exceptionTable := #[], attributes := #[] }
def k9m0 : Method := { name := "value", desc := "()Ljava/math/BigInteger;", sig := { parameters := [], returnType := some (.object "java/math/BigInteger") }, accessFlags := 1, code := some k9c0 }
def k9c1 : Code := { maxStack := 1, maxLocals := 1, code := prog_98_method_7_code, exceptionTable := #[], attributes := #[] }
def k9m1 : Method := { name := "sort", desc := "()Lcom/example/loopwright/loopwright/solver/Sort;", sig := { parameters := [], returnType := some (.object "com/example/loopwright/loopwright/solver/Sort") }, accessFlags := 1, code := some k9c1 }
/-- com/example/loopwright/loopwright/solver/Term$Constant -/
def k9 : Class := { plain "com/example/loopwright/loopwright/solver/Term$Constant" (some 8) with
  accessFlags := 49
  interfaces := #[2]
  cf := some (fileOf pool9 26 #[.nestHost 13] #[{ accessFlags := 1, nameIndex := 29, descriptorIndex := 61, attributes := #[] }, { accessFlags := 1, nameIndex := 33, descriptorIndex := 62, attributes := #[] }] 49 2 #[13] #[{ accessFlags := 18, nameIndex := 29, descriptorIndex := 30, attributes := #[] }, { accessFlags := 18, nameIndex := 33, descriptorIndex := 34, attributes := #[] }])
  fields := #[{ name := "value", type := (.object "java/math/BigInteger"), accessFlags := 18, slot := 0, constantValue := 0 }, { name := "sort", type := (.object "com/example/loopwright/loopwright/solver/Sort"), accessFlags := 18, slot := 1, constantValue := 0 }]
  methods := #[k9m0, k9m1]
  instanceTypes := #[(.object "java/math/BigInteger"), (.object "com/example/loopwright/loopwright/solver/Sort")]
  staticTypes := #[]
  resolved := Array.replicate 94 none
  statics := none }

def pool10 : Array CpInfo := pool [(2, .class_ 4), (1, u "java/lang/Object"), (0, u "<init>"), (0, u "()V"), (1, .class_ 10), (1, u "java/lang/Number"), (2, .class_ 14), (0, u "java/io/Serializable"), (0, u "serialVersionUID"), (0, u "J")] 20

def k10m0 : Method := { name := "<init>", desc := "()V", sig := { parameters := [], returnType := none }, accessFlags := 1, code := none }
/-- java/lang/Number -/
def k10 : Class := { plain "java/lang/Number" (some 0) with
  accessFlags := 1057
  interfaces := #[5]
  cf := some (fileOf pool10 8 #[] #[{ accessFlags := 1, nameIndex := 5, descriptorIndex := 6, attributes := #[] }] 1057 2 #[13] #[{ accessFlags := 26, nameIndex := 15, descriptorIndex := 16, attributes := #[] }])
  fields := #[{ name := "serialVersionUID", type := .long, accessFlags := 26, slot := 0, constantValue := 0 }]
  methods := #[k10m0]
  instanceTypes := #[]
  staticTypes := #[.long]
  resolved := Array.replicate 37 none
  statics := none }

def pool11 : Array CpInfo := pool [(4, .class_ 6), (1, u "java/lang/Number"), (16, .class_ 25), (1, u "java/math/BigInteger"), (0, u "ZERO"), (0, u "Ljava/math/BigInteger;"), (2, u "mag"), (0, u "[I"), (0, .fieldref 23 33), (0, .nameAndType 34 35), (0, u "signum"), (0, u "I"), (38, u "()I"), (20, u "bitsPerDigit"), (0, u "[J"), (9, u "digitsPerInt"), (12, u "intRadix"), (60, u "SMALL_PRIME_PRODUCT"), (79, u "ONE"), (6, u "TWO"), (43, u "$assertionsDisabled"), (0, u "Z"), (36, u "posConst"), (0, u "[Ljava/math/BigInteger;"), (4, u "negConst"), (116, .class_ 474), (1, u "java/math/BigInteger$RecursiveOp"), (106, u "NEGATIVE_ONE"), (91, u "bnExpModThreshTable"), (72, u "lowestSetBitPlusTwo"), (2, u "bitLengthPlusOne"), (2, u "bitCountPlusOne"), (6, u "LOG_TWO"), (0, u "D"), (2, u "logCache"), (0, u "[D"), (13, u "NUM_ZEROS"), (2, u "ZEROS"), (0, u "Ljava/lang/String;"), (9, u "longRadix"), (5, u "digitsPerLong"), (22, u "powerCache"), (0, u "[[Ljava/math/BigInteger;"), (45, u "firstNonzeroIntNumPlusTwo"), (38, .class_ 909), (1, u "java/math/BigInteger$UnsafeHolder"), (141, u "TEN"), (106, u "serialPersistentFields"), (0, u "[Ljava/io/ObjectStreamField;"), (0, .class_ 1161), (0, u "java/lang/Comparable"), (0, u "LONG_MASK"), (0, u "J"), (1, u "MAX_MAG_LENGTH"), (0, u "PRIME_SEARCH_BIT_LENGTH_LIMIT"), (1, u "KARATSUBA_THRESHOLD"), (1, u "TOOM_COOK_THRESHOLD"), (1, u "KARATSUBA_SQUARE_THRESHOLD"), (1, u "TOOM_COOK_SQUARE_THRESHOLD"), (1, u "BURNIKEL_ZIEGLER_THRESHOLD"), (0, u "BURNIKEL_ZIEGLER_OFFSET"), (1, u "SCHOENHAGE_BASE_CONVERSION_THRESHOLD"), (1, u "MULTIPLY_SQUARE_THRESHOLD"), (0, u "MONTGOMERY_INTRINSIC_THRESHOLD"), (1, u "SMALL_PRIME_THRESHOLD"), (1, u "DEFAULT_PRIME_CERTAINTY"), (1, u "MAX_CONSTANT"), (3, u "serialVersionUID"), (338, .class_ 1532), (0, u "java/math/BigInteger$RecursiveOp$RecursiveSquare"), (0, .class_ 1534), (0, u "java/math/BigInteger$RecursiveOp$RecursiveMultiply")] 7

def k11c0 : Code := { maxStack := 1, maxLocals := 1, code := jdk_2097_method_81_code, exceptionTable := #[], attributes := #[] }
def k11m0 : Method := { name := "signum", desc := "()I", sig := { parameters := [], returnType := some .int }, accessFlags := 1, code := some k11c0 }
/-- java/math/BigInteger -/
def k11 : Class := { plain "java/math/BigInteger" (some 10) with
  accessFlags := 33
  interfaces := #[4]
  cf := some (fileOf pool11 23 #[.nestMembers #[907, 472, 1531, 1533]] #[{ accessFlags := 1, nameIndex := 34, descriptorIndex := 74, attributes := #[] }] 33 4 #[1160] #[{ accessFlags := 16, nameIndex := 34, descriptorIndex := 35, attributes := #[] }, { accessFlags := 16, nameIndex := 30, descriptorIndex := 31, attributes := #[] }, { accessFlags := 2, nameIndex := 752, descriptorIndex := 35, attributes := #[] }, { accessFlags := 2, nameIndex := 749, descriptorIndex := 35, attributes := #[] }, { accessFlags := 2, nameIndex := 746, descriptorIndex := 35, attributes := #[] }, { accessFlags := 2, nameIndex := 868, descriptorIndex := 35, attributes := #[] }, { accessFlags := 24, nameIndex := 1162, descriptorIndex := 1163, attributes := #[] }, { accessFlags := 26, nameIndex := 1165, descriptorIndex := 35, attributes := #[] }, { accessFlags := 26, nameIndex := 1166, descriptorIndex := 35, attributes := #[] }, { accessFlags := 26, nameIndex := 1168, descriptorIndex := 35, attributes := #[] }, { accessFlags := 26, nameIndex := 1170, descriptorIndex := 35, attributes := #[] }, { accessFlags := 26, nameIndex := 1172, descriptorIndex := 35, attributes := #[] }, { accessFlags := 26, nameIndex := 1174, descriptorIndex := 35, attributes := #[] }, { accessFlags := 24, nameIndex := 1176, descriptorIndex := 35, attributes := #[] }, { accessFlags := 24, nameIndex := 1177, descriptorIndex := 35, attributes := #[] }, { accessFlags := 26, nameIndex := 1179, descriptorIndex := 35, attributes := #[] }, { accessFlags := 26, nameIndex := 1181, descriptorIndex := 35, attributes := #[] }, { accessFlags := 26, nameIndex := 1182, descriptorIndex := 35, attributes := #[] }, { accessFlags := 10, nameIndex := 95, descriptorIndex := 96, attributes := #[] }, { accessFlags := 26, nameIndex := 1184, descriptorIndex := 35, attributes := #[] }, { accessFlags := 26, nameIndex := 1186, descriptorIndex := 35, attributes := #[] }, { accessFlags := 26, nameIndex := 180, descriptorIndex := 27, attributes := #[] }, { accessFlags := 26, nameIndex := 1188, descriptorIndex := 35, attributes := #[] }, { accessFlags := 26, nameIndex := 349, descriptorIndex := 350, attributes := #[] }, { accessFlags := 26, nameIndex := 355, descriptorIndex := 350, attributes := #[] }, { accessFlags := 74, nameIndex := 821, descriptorIndex := 822, attributes := #[] }, { accessFlags := 26, nameIndex := 763, descriptorIndex := 764, attributes := #[] }, { accessFlags := 26, nameIndex := 759, descriptorIndex := 760, attributes := #[] }, { accessFlags := 25, nameIndex := 26, descriptorIndex := 27, attributes := #[] }, { accessFlags := 25, nameIndex := 260, descriptorIndex := 27, attributes := #[] }, { accessFlags := 25, nameIndex := 267, descriptorIndex := 27, attributes := #[] }, { accessFlags := 26, nameIndex := 581, descriptorIndex := 27, attributes := #[] }, { accessFlags := 25, nameIndex := 1051, descriptorIndex := 27, attributes := #[] }, { accessFlags := 8, nameIndex := 673, descriptorIndex := 31, attributes := #[] }, { accessFlags := 10, nameIndex := 778, descriptorIndex := 35, attributes := #[] }, { accessFlags := 26, nameIndex := 781, descriptorIndex := 782, attributes := #[] }, { accessFlags := 10, nameIndex := 798, descriptorIndex := 31, attributes := #[] }, { accessFlags := 10, nameIndex := 792, descriptorIndex := 350, attributes := #[] }, { accessFlags := 10, nameIndex := 106, descriptorIndex := 31, attributes := #[] }, { accessFlags := 10, nameIndex := 119, descriptorIndex := 31, attributes := #[] }, { accessFlags := 26, nameIndex := 1192, descriptorIndex := 1163, attributes := #[] }, { accessFlags := 26, nameIndex := 1158, descriptorIndex := 1159, attributes := #[] }, { accessFlags := 4120, nameIndex := 311, descriptorIndex := 312, attributes := #[] }])
  fields := #[{ name := "signum", type := .int, accessFlags := 16, slot := 0, constantValue := 0 }, { name := "mag", type := (.array .int), accessFlags := 16, slot := 1, constantValue := 0 }, { name := "bitCountPlusOne", type := .int, accessFlags := 2, slot := 2, constantValue := 0 }, { name := "bitLengthPlusOne", type := .int, accessFlags := 2, slot := 3, constantValue := 0 }, { name := "lowestSetBitPlusTwo", type := .int, accessFlags := 2, slot := 4, constantValue := 0 }, { name := "firstNonzeroIntNumPlusTwo", type := .int, accessFlags := 2, slot := 5, constantValue := 0 }, { name := "LONG_MASK", type := .long, accessFlags := 24, slot := 0, constantValue := 0 }, { name := "MAX_MAG_LENGTH", type := .int, accessFlags := 26, slot := 1, constantValue := 0 }, { name := "PRIME_SEARCH_BIT_LENGTH_LIMIT", type := .int, accessFlags := 26, slot := 2, constantValue := 0 }, { name := "KARATSUBA_THRESHOLD", type := .int, accessFlags := 26, slot := 3, constantValue := 0 }, { name := "TOOM_COOK_THRESHOLD", type := .int, accessFlags := 26, slot := 4, constantValue := 0 }, { name := "KARATSUBA_SQUARE_THRESHOLD", type := .int, accessFlags := 26, slot := 5, constantValue := 0 }, { name := "TOOM_COOK_SQUARE_THRESHOLD", type := .int, accessFlags := 26, slot := 6, constantValue := 0 }, { name := "BURNIKEL_ZIEGLER_THRESHOLD", type := .int, accessFlags := 24, slot := 7, constantValue := 0 }, { name := "BURNIKEL_ZIEGLER_OFFSET", type := .int, accessFlags := 24, slot := 8, constantValue := 0 }, { name := "SCHOENHAGE_BASE_CONVERSION_THRESHOLD", type := .int, accessFlags := 26, slot := 9, constantValue := 0 }, { name := "MULTIPLY_SQUARE_THRESHOLD", type := .int, accessFlags := 26, slot := 10, constantValue := 0 }, { name := "MONTGOMERY_INTRINSIC_THRESHOLD", type := .int, accessFlags := 26, slot := 11, constantValue := 0 }, { name := "bitsPerDigit", type := (.array .long), accessFlags := 10, slot := 12, constantValue := 0 }, { name := "SMALL_PRIME_THRESHOLD", type := .int, accessFlags := 26, slot := 13, constantValue := 0 }, { name := "DEFAULT_PRIME_CERTAINTY", type := .int, accessFlags := 26, slot := 14, constantValue := 0 }, { name := "SMALL_PRIME_PRODUCT", type := (.object "java/math/BigInteger"), accessFlags := 26, slot := 15, constantValue := 0 }, { name := "MAX_CONSTANT", type := .int, accessFlags := 26, slot := 16, constantValue := 0 }, { name := "posConst", type := (.array (.object "java/math/BigInteger")), accessFlags := 26, slot := 17, constantValue := 0 }, { name := "negConst", type := (.array (.object "java/math/BigInteger")), accessFlags := 26, slot := 18, constantValue := 0 }, { name := "powerCache", type := (.array (.array (.object "java/math/BigInteger"))), accessFlags := 74, slot := 19, constantValue := 0 }, { name := "logCache", type := (.array .double), accessFlags := 26, slot := 20, constantValue := 0 }, { name := "LOG_TWO", type := .double, accessFlags := 26, slot := 21, constantValue := 0 }, { name := "ZERO", type := (.object "java/math/BigInteger"), accessFlags := 25, slot := 22, constantValue := 0 }, { name := "ONE", type := (.object "java/math/BigInteger"), accessFlags := 25, slot := 23, constantValue := 0 }, { name := "TWO", type := (.object "java/math/BigInteger"), accessFlags := 25, slot := 24, constantValue := 0 }, { name := "NEGATIVE_ONE", type := (.object "java/math/BigInteger"), accessFlags := 26, slot := 25, constantValue := 0 }, { name := "TEN", type := (.object "java/math/BigInteger"), accessFlags := 25, slot := 26, constantValue := 0 }, { name := "bnExpModThreshTable", type := (.array .int), accessFlags := 8, slot := 27, constantValue := 0 }, { name := "NUM_ZEROS", type := .int, accessFlags := 10, slot := 28, constantValue := 0 }, { name := "ZEROS", type := (.object "java/lang/String"), accessFlags := 26, slot := 29, constantValue := 0 }, { name := "digitsPerLong", type := (.array .int), accessFlags := 10, slot := 30, constantValue := 0 }, { name := "longRadix", type := (.array (.object "java/math/BigInteger")), accessFlags := 10, slot := 31, constantValue := 0 }, { name := "digitsPerInt", type := (.array .int), accessFlags := 10, slot := 32, constantValue := 0 }, { name := "intRadix", type := (.array .int), accessFlags := 10, slot := 33, constantValue := 0 }, { name := "serialVersionUID", type := .long, accessFlags := 26, slot := 34, constantValue := 0 }, { name := "serialPersistentFields", type := (.array (.object "java/io/ObjectStreamField")), accessFlags := 26, slot := 35, constantValue := 0 }, { name := "$assertionsDisabled", type := .boolean, accessFlags := 4120, slot := 36, constantValue := 0 }]
  methods := #[k11m0]
  instanceTypes := #[.int, (.array .int), .int, .int, .int, .int]
  staticTypes := #[.long, .int, .int, .int, .int, .int, .int, .int, .int, .int, .int, .int, (.array .long), .int, .int, (.object "java/math/BigInteger"), .int, (.array (.object "java/math/BigInteger")), (.array (.object "java/math/BigInteger")), (.array (.array (.object "java/math/BigInteger"))), (.array .double), .double, (.object "java/math/BigInteger"), (.object "java/math/BigInteger"), (.object "java/math/BigInteger"), (.object "java/math/BigInteger"), (.object "java/math/BigInteger"), (.array .int), .int, (.object "java/lang/String"), (.array .int), (.array (.object "java/math/BigInteger")), (.array .int), (.array .int), .long, (.array (.object "java/io/ObjectStreamField")), .boolean]
  resolved := Array.replicate 1542 none
  statics := none }

def pool12 : Array CpInfo := pool [(1, u "java/lang/Cloneable"), (0, .class_ 1), (0, u "java/lang/Object"), (0, .class_ 3)] 3

/-- java/lang/Cloneable -/
def k12 : Class := { plain "java/lang/Cloneable" (some 0) with
  accessFlags := 1537
  interfaces := #[]
  cf := some (fileOf pool12 2 #[] #[] 1537 4 #[] #[])
  fields := #[]
  methods := #[]
  instanceTypes := #[]
  staticTypes := #[]
  resolved := Array.replicate 8 none
  statics := none }

/-- the primitive byte -/
def k13 : Class := { plain "byte" none with kind := .primitive 'B', accessFlags := 0x411 }
/-- [B -/
def k14 : Class := { plain "[B" (some 0) with kind := .array 13 .byte, interfaces := #[12, 5], accessFlags := 1041 }

/-- the primitive int -/
def k15 : Class := { plain "int" none with kind := .primitive 'I', accessFlags := 0x411 }
/-- [I -/
def k16 : Class := { plain "[I" (some 0) with kind := .array 15 .int, interfaces := #[12, 5], accessFlags := 1041 }

def heap : Heap := #[{ cls := 2, slots := #[.int 0, .int 0, .ref 3, .ref 2], vm := .statics 2 },
  { cls := 7, slots := #[.null, .null, .ref 4, .null], vm := .statics 7 },
  { cls := 9, slots := #[.ref 5, .ref 4], vm := .none },
  { cls := 9, slots := #[.ref 6, .ref 4], vm := .none },
  { cls := 7, slots := #[.null, .int 0, .int 0, .null], vm := .none },
  { cls := 11, slots := #[.int 0, .null, .int 0, .int 0, .int 0, .int 0], vm := .none },
  { cls := 11, slots := #[.int 1, .null, .int 0, .int 0, .int 0, .int 0], vm := .none }]
def classes : Array Class := #[k0, k1, k2, k3, k4, k5, k6, k7, k8, k9, k10, k11, k12, k13, k14, k15, k16]
def interned : List (Array UInt16 × Addr) := []
def slotsUsed : Nat := 28
def theMethod : MethodId := ⟨1, 1⟩
def args0 : Array Value := #[.int 5]
def aboutOver (below : List Frame) : State where
  vm := { classes := classes, interned := interned.toArray }
  heap := heap
  slotsUsed := slotsUsed
  threads := #[{ frames := .invoking theMethod args0 :: below }]
def below0 : List Frame := [.native { method := ⟨0, 0⟩, args := #[] }]
def about1 : State := aboutOver below0
def p0 : Program := .bare "" "" ""
def e0 : Env := launch0.env 0 0 0
theorem w_frames : about1.frames = Frame.invoking theMethod args0 :: below0 := rfl
set_option maxRecDepth 65536 in
theorem w_args : argsFit about1.vm theMethod args0 = true := by decide +kernel
set_option maxRecDepth 65536 in
theorem w_heap : heapFits about1 = true := by decide +kernel
set_option maxRecDepth 65536 in
theorem w_runnable : about1.curStatus? = some .runnable := by decide +kernel
set_option maxRecDepth 65536 in
theorem w_alone : about1.alone = true := by decide +kernel
set_option maxRecDepth 65536 in
theorem w_named : about1.methodNamed? x = some theMethod := by decide +kernel
set_option maxRecDepth 65536 in
theorem w_hears : about1.hears theMethod below0 = true := by decide +kernel
set_option maxRecDepth 65536 in
theorem w_ripe : about1.ripe theMethod args0 below0 = true := by decide +kernel
theorem w_running : about1.status = .running := rfl
set_option maxRecDepth 65536 in
theorem w_room : about1.hasRoom e0.platform room_1 = true :=
  launch0.hasRoom_least _ room_1 (by decide +kernel) (by decide +kernel) (by decide +kernel) (by decide +kernel) (by decide +kernel) (by decide +kernel)
theorem allAtoms_all (ts : List Jvm.Cond) (a : Array Jvm.Value) (st : Jvm.State) : (allAtoms ts).before a st = ts.all (fun c => c.before a st) := by
  induction ts with
  | nil => rfl
  | cons c t ih =>
    show (Jvm.Cond.and c (allAtoms t)).before a st = _
    rw [Jvm.Cond.before_and, ih, List.all_cons]
def words1 : List Jvm.Cond := Jvm.Cond.code x code maxLocals ret :: tables_1
/-- a 'code' word, met by the world's own term for the bytes: nothing is compared byte by byte -/
theorem code_word {y : MethodName} {bytes : ByteArray} {mx : Nat} {rt : Option FieldType} {a : Array Value} {s : State} {m : MethodId} {meth : Method} {c : Code} (h1 : s.methodNamed? y = some m) (h2 : s.vm.method? m = some meth) (h3 : meth.code = some c) (h4 : c.code = bytes)
    (h5 : (c.maxLocals == mx && c.exceptionTable.isEmpty && decide (c.maxStack ≤ mostOperands) && decide (meth.sig.returnType = rt) && !meth.locks && decide (parseMethodDescriptor y.desc = some meth.sig)) = true) : (Jvm.Cond.code y bytes mx rt).before a s = true := by
  simp only [Bool.and_eq_true, beq_iff_eq, Bool.not_eq_true', decide_eq_true_eq] at h5
  obtain ⟨⟨⟨⟨⟨g1, g2⟩, g3⟩, g4⟩, g5⟩, g6⟩ := h5
  simp [Cond.before, Cond.holds, Cond.value, h1, h2, h3, h4, g1, g2, g3, g4, g5, g6]
def isCode : Jvm.Cond → Bool
  | .code _ _ _ _ => true
  | _ => false
theorem all_split {L : List Jvm.Cond} {P : Jvm.Cond → Bool} (h1 : L.all (fun c => isCode c || P c) = true) (h2 : ∀ c ∈ L.filter isCode, P c = true) : L.all P = true := by
  refine List.all_eq_true.mpr fun c hc => ?_
  have h := List.all_eq_true.mp h1 c hc
  rcases Bool.eq_false_or_eq_true (isCode c) with hi | hi
  · exact h2 c (List.mem_filter.mpr ⟨hc, hi⟩)
  · simpa [hi] using h
set_option maxRecDepth 65536 in
theorem w_c0 : (Jvm.Cond.code x code maxLocals ret).before args0 about1 = true := code_word (m := ⟨1, 1⟩) (meth := k1m1) (c := k1c1) (by decide +kernel) rfl rfl rfl (by decide +kernel)
set_option maxRecDepth 65536 in
theorem w_c1 : (Jvm.Cond.code ({ cls := "com/example/loopwright/loopwright/solver/Term", name := "bool", desc := "(Z)Lcom/example/loopwright/loopwright/solver/Term;" } : Jvm.MethodName) prog_96_method_6_code (1 : Nat) (Option.some (Jvm.ClassFile.FieldType.object "com/example/loopwright/loopwright/solver/Term"))).before args0 about1 = true := code_word (m := ⟨2, 1⟩) (meth := k2m1) (c := k2c1) (by decide +kernel) rfl rfl rfl (by decide +kernel)
set_option maxRecDepth 65536 in
theorem w_c2 : (Jvm.Cond.code ({ cls := "com/example/loopwright/loopwright/solver/Term", name := "not", desc := "(Lcom/example/loopwright/loopwright/solver/Term;)Lcom/example/loopwright/loopwright/solver/Term;" } : Jvm.MethodName) prog_96_method_17_code (4 : Nat) (Option.some (Jvm.ClassFile.FieldType.object "com/example/loopwright/loopwright/solver/Term"))).before args0 about1 = true := code_word (m := ⟨2, 2⟩) (meth := k2m2) (c := k2c2) (by decide +kernel) rfl rfl rfl (by decide +kernel)
set_option maxRecDepth 65536 in
theorem w_c3 : (Jvm.Cond.code ({ cls := "com/example/loopwright/loopwright/solver/Term", name := "requireSort", desc := "(Lcom/example/loopwright/loopwright/solver/Sort;Lcom/example/loopwright/loopwright/solver/Term;Lcom/example/loopwright/loopwright/solver/Term;)V" } : Jvm.MethodName) prog_96_method_31_code (3 : Nat) (Option.none : Option Jvm.ClassFile.FieldType)).before args0 about1 = true := code_word (m := ⟨2, 3⟩) (meth := k2m3) (c := k2c3) (by decide +kernel) rfl rfl rfl (by decide +kernel)
set_option maxRecDepth 65536 in
theorem w_c4 : (Jvm.Cond.code ({ cls := "com/example/loopwright/loopwright/solver/Term$Constant", name := "sort", desc := "()Lcom/example/loopwright/loopwright/solver/Sort;" } : Jvm.MethodName) prog_98_method_7_code (1 : Nat) (Option.some (Jvm.ClassFile.FieldType.object "com/example/loopwright/loopwright/solver/Sort"))).before args0 about1 = true := code_word (m := ⟨9, 1⟩) (meth := k9m1) (c := k9c1) (by decide +kernel) rfl rfl rfl (by decide +kernel)
set_option maxRecDepth 65536 in
theorem w_c5 : (Jvm.Cond.code ({ cls := "com/example/loopwright/loopwright/solver/Term$Constant", name := "value", desc := "()Ljava/math/BigInteger;" } : Jvm.MethodName) prog_98_method_6_code (1 : Nat) (Option.some (Jvm.ClassFile.FieldType.object "java/math/BigInteger"))).before args0 about1 = true := code_word (m := ⟨9, 0⟩) (meth := k9m0) (c := k9c0) (by decide +kernel) rfl rfl rfl (by decide +kernel)
set_option maxRecDepth 65536 in
theorem w_c6 : (Jvm.Cond.code ({ cls := "java/math/BigInteger", name := "signum", desc := "()I" } : Jvm.MethodName) jdk_2097_method_81_code (1 : Nat) (Option.some Jvm.ClassFile.FieldType.int)).before args0 about1 = true := code_word (m := ⟨11, 0⟩) (meth := k11m0) (c := k11c0) (by decide +kernel) rfl rfl rfl (by decide +kernel)
def codes1 : List Jvm.Cond := [Jvm.Cond.code x code maxLocals ret, Jvm.Cond.code ({ cls := "com/example/loopwright/loopwright/solver/Term", name := "bool", desc := "(Z)Lcom/example/loopwright/loopwright/solver/Term;" } : Jvm.MethodName) prog_96_method_6_code (1 : Nat) (Option.some (Jvm.ClassFile.FieldType.object "com/example/loopwright/loopwright/solver/Term")), Jvm.Cond.code ({ cls := "com/example/loopwright/loopwright/solver/Term", name := "not", desc := "(Lcom/example/loopwright/loopwright/solver/Term;)Lcom/example/loopwright/loopwright/solver/Term;" } : Jvm.MethodName) prog_96_method_17_code (4 : Nat) (Option.some (Jvm.ClassFile.FieldType.object "com/example/loopwright/loopwright/solver/Term")), Jvm.Cond.code ({ cls := "com/example/loopwright/loopwright/solver/Term", name := "requireSort", desc := "(Lcom/example/loopwright/loopwright/solver/Sort;Lcom/example/loopwright/loopwright/solver/Term;Lcom/example/loopwright/loopwright/solver/Term;)V" } : Jvm.MethodName) prog_96_method_31_code (3 : Nat) (Option.none : Option Jvm.ClassFile.FieldType), Jvm.Cond.code ({ cls := "com/example/loopwright/loopwright/solver/Term$Constant", name := "sort", desc := "()Lcom/example/loopwright/loopwright/solver/Sort;" } : Jvm.MethodName) prog_98_method_7_code (1 : Nat) (Option.some (Jvm.ClassFile.FieldType.object "com/example/loopwright/loopwright/solver/Sort")), Jvm.Cond.code ({ cls := "com/example/loopwright/loopwright/solver/Term$Constant", name := "value", desc := "()Ljava/math/BigInteger;" } : Jvm.MethodName) prog_98_method_6_code (1 : Nat) (Option.some (Jvm.ClassFile.FieldType.object "java/math/BigInteger")), Jvm.Cond.code ({ cls := "java/math/BigInteger", name := "signum", desc := "()I" } : Jvm.MethodName) jdk_2097_method_81_code (1 : Nat) (Option.some Jvm.ClassFile.FieldType.int)]
set_option maxRecDepth 65536 in
theorem codes_eq : words1.filter isCode = codes1 := rfl
theorem w_codes : ∀ c ∈ words1.filter isCode, c.before args0 about1 = true := by
  rw [codes_eq]
  intro c hc
  simp only [codes1, List.mem_cons, List.not_mem_nil, or_false] at hc
  rcases hc with rfl | rfl | rfl | rfl | rfl | rfl | rfl
  · exact w_c0
  · exact w_c1
  · exact w_c2
  · exact w_c3
  · exact w_c4
  · exact w_c5
  · exact w_c6
set_option maxRecDepth 65536 in
theorem w_t1 : (words1.take 24).all (fun c => isCode c || c.before args0 about1) = true := by decide +kernel
set_option maxRecDepth 65536 in
theorem w_t2 : ((words1.drop 24).take 24).all (fun c => isCode c || c.before args0 about1) = true := by decide +kernel
set_option maxRecDepth 65536 in
theorem w_t3 : ((words1.drop 24).drop 24).all (fun c => isCode c || c.before args0 about1) = true := by decide +kernel
theorem w_tables : (allAtoms (Jvm.Cond.code x code maxLocals ret :: tables_1)).before args0 about1 = true := by
  rw [allAtoms_all]
  show words1.all (fun c => c.before args0 about1) = true
  refine all_split ?_ w_codes
  rw [← List.take_append_drop 24 words1, List.all_append, w_t1, ← List.take_append_drop 24 (words1.drop 24), List.all_append, w_t2, w_t3]
  rfl
set_option maxRecDepth 65536 in
theorem w_case : (Jvm.Cond.and given_1 narrow_1).before args0 about1 = true := by decide +kernel
theorem w_applies : (headSpec (Jvm.Cond.code x code maxLocals ret :: tables_1) room_1).applies x e0.platform about1 = true :=
  (Spec.applies_iff w_frames).mpr ⟨w_running, w_runnable, w_alone, w_named, w_hears, w_ripe, w_room, w_tables⟩
theorem atStart : AtStart classFile x code maxLocals ret World_1 tables_1 room_1 Calls_1 rest_1 Pre_1 launch0 p0 e0 about1 theMethod args0 below0 :=
  ⟨lists_1, trivial, launch0.admits_env _ _ _, launch0.least_env, fairChoices_fair.cas, fairChoices_fair.clock, w_frames, w_args, w_heap, w_applies, trivial, trivial, w_case⟩
end start1
theorem witness_1 : WitnessClaimed_1 := ⟨start1.p0, start1.e0, start1.about1, start1.theMethod, start1.args0, start1.below0, start1.atStart⟩
end Jvm.Pilot.@@N@@

import JvmDerived
import JvmDerived.Pilot.@@N@@Statement
import JvmDerived.Pilot.@@N@@Code
set_option linter.unusedVariables false
set_option linter.unusedSimpArgs false
namespace Jvm.RoadKit
open Sem ClassFile Op Lib Jvm.Stand Jvm.Free Jvm.LawKit
section New
variable {p : Program} {l : Launch} {e : Env} {R : Room} {s : State} {m : MethodId} {args : Array Value} {below : List Frame} {meth : Method} {c : Code} {T : State} {locs : List Loc} {cells slots : Nat}
theorem retI (X : Stand p l e R s m args below meth c T locs cells slots) (hx : p.tables.exec = Jvm.exec) {pc : Nat} {Ls : Array Slot} {z : Int32} {rest : List Value} (hret : meth.sig.returnType = some .int) (hd : decode c.code pc = .ok (.ireturn, 1)) {fs : List Frame}
    (hl : ∀ (f : JFrame) (acts : List Action), f.method = m → f.locked = none → f.entered = [] → (doReturn e (T.setTop f) acts (some (.int z))).1 = T.setFrames fs) : Steps p.tables e below (T.setTop (mkF m pc Ls (.int z :: rest))) (T.setFrames fs) :=
  retOut X hx (t := .int) hret rfl (Or.inl ⟨rfl, Or.inl rfl, z, rfl⟩) hd hl
end New
end Jvm.RoadKit
namespace Jvm.Pilot.@@N@@
open Jvm Jvm.ClassFile Sem Op Lib Jvm.Free Jvm.Stand Jvm.LawKit Jvm.RoadKit Bundle Jvm.Pilot.@@N@@.Jvm.D
/-- the run from A on ends, and K holds of its end -/
def own_Fin (p : Program) (e : Env) (below : List Frame) (K : Outcome → State → Prop) (A : State) : Prop := ∃ t o, Steps p.tables e below A t ∧ t.status = .running ∧ Ended t below o ∧ K o t
theorem own_st {p : Program} {e : Env} {below : List Frame} {K : Outcome → State → Prop} {A B : State} (st : ∀ t, Steps p.tables e below B t → Steps p.tables e below A t) (h : own_Fin p e below K B) : own_Fin p e below K A := by
  obtain ⟨t, o, h1, h2⟩ := h
  exact ⟨t, o, st t h1, h2⟩
theorem own_tr {p : Program} {e : Env} {below : List Frame} {K : Outcome → State → Prop} {A B : State} (st : Steps p.tables e below A B) (h : own_Fin p e below K B) : own_Fin p e below K A := by
  obtain ⟨t, o, h1, h2⟩ := h
  exact ⟨t, o, st.trans h1, h2⟩
/-- what a body leaves that writes nothing: it returns r, the heap as it was -/
def own_Q (h0 : Heap) (n0 : Nat) (r : Option Value) (v : Option Value) (h : Heap) (L : List Loc) : Prop := v = r ∧ Fr n0 L ∧ h = h0
theorem own_eqI {args : Array Value} {s : State} {t : Term} {k : Int32} (h : (Jvm.Cond.eq t (.int k)).value args s none s [] = some true) : t.eval args s none [] s = some (.int k) := by
  cases ht : t.eval args s none [] s with
  | none => simp [Cond.value, ht] at h
  | some x => cases x <;> simp [Cond.value, ht, Term.eval] at h ⊢; exact h
theorem own_fld {args : Array Value} {s : State} {t : Term} {a : Addr} {C n d : String} {k : Int32} (ht : t.eval args s none [] s = some (.ref a)) (h : (Jvm.Cond.eq (.field t C n d) (.int k)).value args s none s [] = some true) : Fld s s.heap a C n d (.int k) :=
  Fld.start (by rw [← fld_at ht]; exact own_eqI h)
theorem own_fldR {args : Array Value} {s : State} {t u : Term} {a b : Addr} {C n d : String} (ht : t.eval args s none [] s = some (.ref a)) (hu : u.eval args s none [] s = some (.ref b)) (h : (Jvm.Cond.eq (.field t C n d) u).value args s none s [] = some true) : Fld s s.heap a C n d (.ref b) := by
  refine Fld.start ?_
  rw [← fld_at ht]
  cases he : (Term.field t C n d).eval args s none [] s with
  | none => simp [Cond.value, he] at h
  | some x => cases x <;> simp [Cond.value, he, hu] at h ⊢; exact h
theorem own_differ {args : Array Value} {s : State} {t u : Term} {a b : Addr} (ht : t.eval args s none [] s = some (.ref a)) (hu : u.eval args s none [] s = some (.ref b)) (h : (Jvm.Cond.not (.eq t u)).value args s none s [] = some true) : a ≠ b := by
  have h1 := not_v h
  have h2 := gotF (eq_R ht hu rfl rfl) h1
  exact fun e => h2 (congrArg Value.ref e)
theorem own_pick {r : Int32} {k : Int} (h : r.toInt = k) : r = Int32.ofInt k := by rw [← h, Int32.ofInt_toInt]
def own_Pins (Z : State) (h0 : Heap) (w_PATH w_STATUS w_COMMIT w_RANGE w_WRITE w_READ : Addr) : Prop := (Sta Z h0 "com/example/uni_lock/unilock/cli/Command" "PATH" "Lcom/example/uni_lock/unilock/cli/Command;" (.ref w_PATH)) ∧ (Exa Z h0 w_PATH "com/example/uni_lock/unilock/cli/Command") ∧ (Sta Z h0 "com/example/uni_lock/unilock/cli/Command" "STATUS" "Lcom/example/uni_lock/unilock/cli/Command;" (.ref w_STATUS)) ∧ (Exa Z h0 w_STATUS "com/example/uni_lock/unilock/cli/Command") ∧ (Sta Z h0 "com/example/uni_lock/unilock/cli/Command" "COMMIT" "Lcom/example/uni_lock/unilock/cli/Command;" (.ref w_COMMIT)) ∧ (Exa Z h0 w_COMMIT "com/example/uni_lock/unilock/cli/Command") ∧ (Sta Z h0 "com/example/uni_lock/unilock/cli/Command" "RANGE" "Lcom/example/uni_lock/unilock/cli/Command;" (.ref w_RANGE)) ∧ (Exa Z h0 w_RANGE "com/example/uni_lock/unilock/cli/Command") ∧ (Sta Z h0 "com/example/uni_lock/unilock/cli/Command" "WRITE" "Lcom/example/uni_lock/unilock/cli/Command;" (.ref w_WRITE)) ∧ (Exa Z h0 w_WRITE "com/example/uni_lock/unilock/cli/Command") ∧ (Sta Z h0 "com/example/uni_lock/unilock/cli/Command" "READ" "Lcom/example/uni_lock/unilock/cli/Command;" (.ref w_READ)) ∧ (Exa Z h0 w_READ "com/example/uni_lock/unilock/cli/Command") ∧ (Fld Z h0 w_PATH "java/lang/Enum" "ordinal" "I" (.int 0)) ∧ (Fld Z h0 w_STATUS "java/lang/Enum" "ordinal" "I" (.int 5)) ∧ (Fld Z h0 w_COMMIT "java/lang/Enum" "ordinal" "I" (.int 3)) ∧ (Fld Z h0 w_RANGE "java/lang/Enum" "ordinal" "I" (.int 4)) ∧ (Fld Z h0 w_WRITE "java/lang/Enum" "ordinal" "I" (.int 2)) ∧ (Fld Z h0 w_READ "java/lang/Enum" "ordinal" "I" (.int 1))
theorem own_mod6 (p : Int32) : (p &&& (2147483647 : Int32)) % (6 : Int32) = (0 : Int32) ∨ (p &&& (2147483647 : Int32)) % (6 : Int32) = (1 : Int32) ∨ (p &&& (2147483647 : Int32)) % (6 : Int32) = (2 : Int32) ∨ (p &&& (2147483647 : Int32)) % (6 : Int32) = (3 : Int32) ∨ (p &&& (2147483647 : Int32)) % (6 : Int32) = (4 : Int32) ∨ (p &&& (2147483647 : Int32)) % (6 : Int32) = (5 : Int32) := by
  have h1 := c_and p (2147483647 : Int32) (by decide)
  have h2 := (c_irem (p &&& (2147483647 : Int32)) (6 : Int32) 6 rfl).1 h1.1
  generalize (p &&& (2147483647 : Int32)) % (6 : Int32) = r at h2 ⊢
  rcases (by omega : r.toInt = 0 ∨ r.toInt = 1 ∨ r.toInt = 2 ∨ r.toInt = 3 ∨ r.toInt = 4 ∨ r.toInt = 5) with h | h | h | h | h | h
  · exact Or.inl (own_pick h)
  · exact Or.inr (Or.inl (own_pick h))
  · exact Or.inr (Or.inr (Or.inl (own_pick h)))
  · exact Or.inr (Or.inr (Or.inr (Or.inl (own_pick h))))
  · exact Or.inr (Or.inr (Or.inr (Or.inr (Or.inl (own_pick h)))))
  · exact Or.inr (Or.inr (Or.inr (Or.inr (Or.inr ((own_pick h))))))
theorem d1_0 : decode method_2_code 0 = .ok (.iload_n 0, 1) := by decide +kernel
theorem d1_1 : decode method_2_code 1 = .ok (.ifCond .ne 7, 3) := by decide +kernel
theorem d1_4 : decode method_2_code 4 = .ok (.getstatic 7, 3) := by decide +kernel
theorem d1_7 : decode method_2_code 7 = .ok (.areturn, 1) := by decide +kernel
theorem ef_1_I (m : MethodId) (x0 : Int32) : entryFrame m #[(.int x0)] 1 = mkF m 0 #[.val (.int x0)] [] := by first | (simp [entryFrame, mkF, argsToLocals, Value.category]; done) | rfl
theorem pn_com_example_uni_lock_unilock_cli_CommandTakesSharedPinLaw : plainName "com/example/uni_lock/unilock/cli/CommandTakesSharedPinLaw" = true := by first | (simp [plainName, overriddenIn]; done) | decide +kernel
set_option maxRecDepth 65536 in
set_option maxHeartbeats 40000000 in
theorem rm1_0 (l : Launch) (Z : State) (a0 : Array Value) (hw : ∀ d ∈ tables_1, d.before a0 Z = true) (ws : List Jvm.Cond) (w_PATH w_STATUS w_COMMIT w_RANGE w_WRITE w_READ : Addr) (h0 : Heap) (n0 : Nat) (PN : own_Pins Z h0 w_PATH w_STATUS w_COMMIT w_RANGE w_WRITE w_READ) :
    MetFree l (⟨"com/example/uni_lock/unilock/cli/CommandTakesSharedPinLaw", "pick", "(I)Lcom/example/uni_lock/unilock/cli/Command;"⟩ : MethodName) (head1 (Jvm.Cond.code (⟨"com/example/uni_lock/unilock/cli/CommandTakesSharedPinLaw", "pick", "(I)Lcom/example/uni_lock/unilock/cli/Command;"⟩ : MethodName) method_2_code 1 (some (.object "com/example/uni_lock/unilock/cli/Command")) :: ws) ({ frames := 0, cells := 0, slots := 0, locals := 0 } : Room)) (fun a U => a = #[(.int (0 : Int32))] ∧ Z.Warmed39 U.vm ∧ U.heap = h0) (fun _ _ _ _ _ => True) (fun _ U o U' => ∃ v L, o = .returned v ∧ own_Q h0 n0 (some (.ref w_PATH)) v U'.heap L ∧ FrameEnd U o U' L ({ frames := 0, cells := 0, slots := 0, locals := 0 } : Room).cells ({ frames := 0, cells := 0, slots := 0, locals := 0 } : Room).slots) := by
  obtain ⟨S_PATH, E_PATH, S_STATUS, E_STATUS, S_COMMIT, E_COMMIT, S_RANGE, E_RANGE, S_WRITE, E_WRITE, S_READ, E_READ, F_PATH_ordinal, F_STATUS_ordinal, F_COMMIT_ordinal, F_RANGE_ordinal, F_WRITE_ordinal, F_READ_ordinal⟩ := PN
  refine MetFree.of_bodySF (plainFor_of_name pn_com_example_uni_lock_unilock_cli_CommandTakesSharedPinLaw) hisR ?_
  intro p e s m args below meth c s₁ Bd hml0 hP hK
  obtain ⟨rfl, hZ, hh⟩ := hP
  have hx := Bd.exec
  have hby := Bd.bytes
  have hml : c.maxLocals = 1 := hml0
  have hown : s.vm.findClass "com/example/uni_lock/unilock/cli/CommandTakesSharedPinLaw" = some m.cls := findClass_of_methodNamed Bd.named
  have X0 : Stand p l e ({ frames := 0, cells := 0, slots := 0, locals := 0 } : Room) s m #[(.int (0 : Int32))] below meth c s₁ [] 0 0 := Stand.of_body Bd
  have e0 : s₁.heap = h0 := by rw [← hh, Bd.state]; rfl
  have N0 := Fr.nil n0
  refine (?_ : own_Fin p e below _ _)
  refine own_st (fun t k => castTop (ef_1_I m (0 : Int32)) k) ?_
  show own_Fin p e below _ (s₁.setTop (mkF m 0 #[.val (.int (0 : Int32))] []))
  refine own_st (fun t k => XS.iloadN X0.here hx rfl (hb hby d1_0) rfl k) ?_
  show own_Fin p e below _ (s₁.setTop (mkF m 1 #[.val (.int (0 : Int32))] [(.int (0 : Int32))]))
  refine own_st (fun t k => XS.ifNo X0.here hx rfl (hb hby d1_1) rfl (by decide) k) ?_
  show own_Fin p e below _ (s₁.setTop (mkF m 4 #[.val (.int (0 : Int32))] []))
  obtain ⟨T1, X1, e1, st1⟩ := getS2 X0 hx hZ hown (host := "") (Or.inl (hw _ (List.mem_of_getElem? (i := 5) rfl))) Via.refl e0 S_PATH (g := (mkF m 4 #[.val (.int (0 : Int32))] [])) rfl (hb hby d1_4)
  refine own_st st1 ?_
  show own_Fin p e below _ (T1.setTop (mkF m 7 #[.val (.int (0 : Int32))] [(.ref w_PATH)]))
  obtain ⟨fs, hr, hrun, hended, hW, hsame⟩ := X1.leave (v := some (.ref w_PATH)) (fun h => by rw [Bd.returns] at h; cases h)
  exact ⟨_, _, retOut X1 hx (t := (.object "com/example/uni_lock/unilock/cli/Command")) Bd.returns rfl (Or.inr (Or.inr (Or.inr (Or.inr ⟨rfl, rfl, rfl⟩)))) (hb hby d1_7) hr, hrun, hended, _, _, rfl, ⟨rfl, N0, e1⟩, ⟨_, rfl⟩, hW, hsame.mono (by decide) (by decide)⟩
theorem pd__I_Lcom_example_uni_lock_unilock_cli_Command_ : parseMethodDescriptor "(I)Lcom/example/uni_lock/unilock/cli/Command;" = some ⟨[.int], some (.object "com/example/uni_lock/unilock/cli/Command")⟩ := by decide +kernel
theorem d2_0 : decode prog_1_method_7_code 0 = .ok (.aload_n 0, 1) := by decide +kernel
theorem d2_1 : decode prog_1_method_7_code 1 = .ok (.getstatic 3, 3) := by decide +kernel
theorem d2_4 : decode prog_1_method_7_code 4 = .ok (.if_acmp .eq 10, 3) := by decide +kernel
theorem d2_14 : decode prog_1_method_7_code 14 = .ok (.iconst 1, 1) := by decide +kernel
theorem d2_15 : decode prog_1_method_7_code 15 = .ok (.goto 4, 3) := by decide +kernel
theorem d2_19 : decode prog_1_method_7_code 19 = .ok (.ireturn, 1) := by decide +kernel
theorem ef_2_R (m : MethodId) (x0 : Addr) : entryFrame m #[(.ref x0)] 1 = mkF m 0 #[.val (.ref x0)] [] := by first | (simp [entryFrame, mkF, argsToLocals, Value.category]; done) | rfl
theorem pn_com_example_uni_lock_unilock_cli_Command : plainName "com/example/uni_lock/unilock/cli/Command" = true := by first | (simp [plainName, overriddenIn]; done) | decide +kernel
set_option maxRecDepth 65536 in
set_option maxHeartbeats 40000000 in
theorem rm2_w_PATH (l : Launch) (Z : State) (a0 : Array Value) (hw : ∀ d ∈ tables_1, d.before a0 Z = true) (ws : List Jvm.Cond) (w_PATH w_STATUS w_COMMIT w_RANGE w_WRITE w_READ : Addr) (h0 : Heap) (n0 : Nat) (PN : own_Pins Z h0 w_PATH w_STATUS w_COMMIT w_RANGE w_WRITE w_READ) :
    MetFree l (⟨"com/example/uni_lock/unilock/cli/Command", "takesShared", "()Z"⟩ : MethodName) (head1 (Jvm.Cond.code (⟨"com/example/uni_lock/unilock/cli/Command", "takesShared", "()Z"⟩ : MethodName) prog_1_method_7_code 1 (some .boolean) :: ws) ({ frames := 0, cells := 0, slots := 0, locals := 0 } : Room)) (fun a U => a = #[(.ref w_PATH)] ∧ Z.Warmed39 U.vm ∧ U.heap = h0) (fun _ _ _ _ _ => True) (fun _ U o U' => ∃ v L, o = .returned v ∧ own_Q h0 n0 (some (.int (1 : Int32))) v U'.heap L ∧ FrameEnd U o U' L ({ frames := 0, cells := 0, slots := 0, locals := 0 } : Room).cells ({ frames := 0, cells := 0, slots := 0, locals := 0 } : Room).slots) := by
  obtain ⟨S_PATH, E_PATH, S_STATUS, E_STATUS, S_COMMIT, E_COMMIT, S_RANGE, E_RANGE, S_WRITE, E_WRITE, S_READ, E_READ, F_PATH_ordinal, F_STATUS_ordinal, F_COMMIT_ordinal, F_RANGE_ordinal, F_WRITE_ordinal, F_READ_ordinal⟩ := PN
  refine MetFree.of_bodySF (plainFor_of_name pn_com_example_uni_lock_unilock_cli_Command) hisR ?_
  intro p e s m args below meth c s₁ Bd hml0 hP hK
  obtain ⟨rfl, hZ, hh⟩ := hP
  have hx := Bd.exec
  have hby := Bd.bytes
  have hml : c.maxLocals = 1 := hml0
  have hown : s.vm.findClass "com/example/uni_lock/unilock/cli/Command" = some m.cls := findClass_of_methodNamed Bd.named
  have X0 : Stand p l e ({ frames := 0, cells := 0, slots := 0, locals := 0 } : Room) s m #[(.ref w_PATH)] below meth c s₁ [] 0 0 := Stand.of_body Bd
  have e0 : s₁.heap = h0 := by rw [← hh, Bd.state]; rfl
  have N0 := Fr.nil n0
  refine (?_ : own_Fin p e below _ _)
  refine own_st (fun t k => castTop (ef_2_R m w_PATH) k) ?_
  show own_Fin p e below _ (s₁.setTop (mkF m 0 #[.val (.ref w_PATH)] []))
  refine own_st (fun t k => XS.aloadN X0.here hx rfl (hb hby d2_0) rfl rfl k) ?_
  show own_Fin p e below _ (s₁.setTop (mkF m 1 #[.val (.ref w_PATH)] [(.ref w_PATH)]))
  obtain ⟨T1, X1, e1, st1⟩ := getS2 X0 hx hZ hown (host := "") (Or.inl (hw _ (List.mem_of_getElem? (i := 13) rfl))) Via.refl e0 S_PATH (g := (mkF m 1 #[.val (.ref w_PATH)] [(.ref w_PATH)])) rfl (hb hby d2_1)
  refine own_st st1 ?_
  show own_Fin p e below _ (T1.setTop (mkF m 4 #[.val (.ref w_PATH)] [(.ref w_PATH), (.ref w_PATH)]))
  refine own_st (fun t k => Jvm.RoadKit.acmp (g := (mkF m 4 #[.val (.ref w_PATH)] [(.ref w_PATH), (.ref w_PATH)])) X1 hx rfl rfl rfl (pc0 := 4) (pc' := 14) (same := true) rfl (hb hby d2_4) rfl (decide_eq_true rfl) (by decide) (by decide) k) ?_
  show own_Fin p e below _ (T1.setTop (mkF m 14 #[.val (.ref w_PATH)] []))
  refine own_st (fun t k => XS.iconst X1.here hx rfl (hb hby d2_14) k) ?_
  show own_Fin p e below _ (T1.setTop (mkF m 15 #[.val (.ref w_PATH)] [(.int (1 : Int32))]))
  refine own_st (fun t k => XS.goto X1.here hx rfl (pc0 := 15) (pc' := 19) rfl (hb hby d2_15) (by decide) (by decide) k) ?_
  show own_Fin p e below _ (T1.setTop (mkF m 19 #[.val (.ref w_PATH)] [(.int (1 : Int32))]))
  obtain ⟨fs, hr, hrun, hended, hW, hsame⟩ := X1.leave (v := some (.int (1 : Int32))) (fun h => by rw [Bd.returns] at h; cases h)
  exact ⟨_, _, retN X1 hx (t := .boolean) Bd.returns (by simp) (hb hby d2_19) hr, hrun, hended, _, _, rfl, ⟨rfl, N0, e1⟩, ⟨_, rfl⟩, hW, hsame.mono (by decide) (by decide)⟩
theorem pd___Z : parseMethodDescriptor "()Z" = some ⟨[], some .boolean⟩ := by decide +kernel
theorem d3_0 : decode prog_1_method_8_code 0 = .ok (.aload_n 0, 1) := by decide +kernel
theorem d3_1 : decode prog_1_method_8_code 1 = .ok (.getstatic 3, 3) := by decide +kernel
theorem d3_4 : decode prog_1_method_8_code 4 = .ok (.if_acmp .ne 7, 3) := by decide +kernel
theorem d3_7 : decode prog_1_method_8_code 7 = .ok (.iconst 1, 1) := by decide +kernel
theorem d3_8 : decode prog_1_method_8_code 8 = .ok (.goto 4, 3) := by decide +kernel
theorem d3_12 : decode prog_1_method_8_code 12 = .ok (.ireturn, 1) := by decide +kernel
theorem ef_3_R (m : MethodId) (x0 : Addr) : entryFrame m #[(.ref x0)] 1 = mkF m 0 #[.val (.ref x0)] [] := by first | (simp [entryFrame, mkF, argsToLocals, Value.category]; done) | rfl
set_option maxRecDepth 65536 in
set_option maxHeartbeats 40000000 in
theorem rm3_w_PATH (l : Launch) (Z : State) (a0 : Array Value) (hw : ∀ d ∈ tables_1, d.before a0 Z = true) (ws : List Jvm.Cond) (w_PATH w_STATUS w_COMMIT w_RANGE w_WRITE w_READ : Addr) (h0 : Heap) (n0 : Nat) (PN : own_Pins Z h0 w_PATH w_STATUS w_COMMIT w_RANGE w_WRITE w_READ) :
    MetFree l (⟨"com/example/uni_lock/unilock/cli/Command", "takesDelete", "()Z"⟩ : MethodName) (head1 (Jvm.Cond.code (⟨"com/example/uni_lock/unilock/cli/Command", "takesDelete", "()Z"⟩ : MethodName) prog_1_method_8_code 1 (some .boolean) :: ws) ({ frames := 0, cells := 0, slots := 0, locals := 0 } : Room)) (fun a U => a = #[(.ref w_PATH)] ∧ Z.Warmed39 U.vm ∧ U.heap = h0) (fun _ _ _ _ _ => True) (fun _ U o U' => ∃ v L, o = .returned v ∧ own_Q h0 n0 (some (.int (1 : Int32))) v U'.heap L ∧ FrameEnd U o U' L ({ frames := 0, cells := 0, slots := 0, locals := 0 } : Room).cells ({ frames := 0, cells := 0, slots := 0, locals := 0 } : Room).slots) := by
  obtain ⟨S_PATH, E_PATH, S_STATUS, E_STATUS, S_COMMIT, E_COMMIT, S_RANGE, E_RANGE, S_WRITE, E_WRITE, S_READ, E_READ, F_PATH_ordinal, F_STATUS_ordinal, F_COMMIT_ordinal, F_RANGE_ordinal, F_WRITE_ordinal, F_READ_ordinal⟩ := PN
  refine MetFree.of_bodySF (plainFor_of_name pn_com_example_uni_lock_unilock_cli_Command) hisR ?_
  intro p e s m args below meth c s₁ Bd hml0 hP hK
  obtain ⟨rfl, hZ, hh⟩ := hP
  have hx := Bd.exec
  have hby := Bd.bytes
  have hml : c.maxLocals = 1 := hml0
  have hown : s.vm.findClass "com/example/uni_lock/unilock/cli/Command" = some m.cls := findClass_of_methodNamed Bd.named
  have X0 : Stand p l e ({ frames := 0, cells := 0, slots := 0, locals := 0 } : Room) s m #[(.ref w_PATH)] below meth c s₁ [] 0 0 := Stand.of_body Bd
  have e0 : s₁.heap = h0 := by rw [← hh, Bd.state]; rfl
  have N0 := Fr.nil n0
  refine (?_ : own_Fin p e below _ _)
  refine own_st (fun t k => castTop (ef_3_R m w_PATH) k) ?_
  show own_Fin p e below _ (s₁.setTop (mkF m 0 #[.val (.ref w_PATH)] []))
  refine own_st (fun t k => XS.aloadN X0.here hx rfl (hb hby d3_0) rfl rfl k) ?_
  show own_Fin p e below _ (s₁.setTop (mkF m 1 #[.val (.ref w_PATH)] [(.ref w_PATH)]))
  obtain ⟨T1, X1, e1, st1⟩ := getS2 X0 hx hZ hown (host := "") (Or.inl (hw _ (List.mem_of_getElem? (i := 13) rfl))) Via.refl e0 S_PATH (g := (mkF m 1 #[.val (.ref w_PATH)] [(.ref w_PATH)])) rfl (hb hby d3_1)
  refine own_st st1 ?_
  show own_Fin p e below _ (T1.setTop (mkF m 4 #[.val (.ref w_PATH)] [(.ref w_PATH), (.ref w_PATH)]))
  refine own_st (fun t k => Jvm.RoadKit.acmp (g := (mkF m 4 #[.val (.ref w_PATH)] [(.ref w_PATH), (.ref w_PATH)])) X1 hx rfl rfl rfl (pc0 := 4) (pc' := 7) (same := true) rfl (hb hby d3_4) rfl (decide_eq_true rfl) (by decide) (by decide) k) ?_
  show own_Fin p e below _ (T1.setTop (mkF m 7 #[.val (.ref w_PATH)] []))
  refine own_st (fun t k => XS.iconst X1.here hx rfl (hb hby d3_7) k) ?_
  show own_Fin p e below _ (T1.setTop (mkF m 8 #[.val (.ref w_PATH)] [(.int (1 : Int32))]))
  refine own_st (fun t k => XS.goto X1.here hx rfl (pc0 := 8) (pc' := 12) rfl (hb hby d3_8) (by decide) (by decide) k) ?_
  show own_Fin p e below _ (T1.setTop (mkF m 12 #[.val (.ref w_PATH)] [(.int (1 : Int32))]))
  obtain ⟨fs, hr, hrun, hended, hW, hsame⟩ := X1.leave (v := some (.int (1 : Int32))) (fun h => by rw [Bd.returns] at h; cases h)
  exact ⟨_, _, retN X1 hx (t := .boolean) Bd.returns (by simp) (hb hby d3_12) hr, hrun, hended, _, _, rfl, ⟨rfl, N0, e1⟩, ⟨_, rfl⟩, hW, hsame.mono (by decide) (by decide)⟩
theorem d4_0 : decode prog_1_method_6_code 0 = .ok (.aload_n 0, 1) := by decide +kernel
theorem d4_1 : decode prog_1_method_6_code 1 = .ok (.getstatic 19, 3) := by decide +kernel
theorem d4_4 : decode prog_1_method_6_code 4 = .ok (.if_acmp .eq 7, 3) := by decide +kernel
theorem d4_7 : decode prog_1_method_6_code 7 = .ok (.iconst 1, 1) := by decide +kernel
theorem d4_8 : decode prog_1_method_6_code 8 = .ok (.goto 4, 3) := by decide +kernel
theorem d4_12 : decode prog_1_method_6_code 12 = .ok (.ireturn, 1) := by decide +kernel
theorem ef_4_R (m : MethodId) (x0 : Addr) : entryFrame m #[(.ref x0)] 1 = mkF m 0 #[.val (.ref x0)] [] := by first | (simp [entryFrame, mkF, argsToLocals, Value.category]; done) | rfl
set_option maxRecDepth 65536 in
set_option maxHeartbeats 40000000 in
theorem rm4_w_PATH (l : Launch) (Z : State) (a0 : Array Value) (hw : ∀ d ∈ tables_1, d.before a0 Z = true) (ws : List Jvm.Cond) (w_PATH w_STATUS w_COMMIT w_RANGE w_WRITE w_READ : Addr) (h0 : Heap) (n0 : Nat) (PN : own_Pins Z h0 w_PATH w_STATUS w_COMMIT w_RANGE w_WRITE w_READ) :
    MetFree l (⟨"com/example/uni_lock/unilock/cli/Command", "locks", "()Z"⟩ : MethodName) (head1 (Jvm.Cond.code (⟨"com/example/uni_lock/unilock/cli/Command", "locks", "()Z"⟩ : MethodName) prog_1_method_6_code 1 (some .boolean) :: ws) ({ frames := 0, cells := 0, slots := 0, locals := 0 } : Room)) (fun a U => a = #[(.ref w_PATH)] ∧ Z.Warmed39 U.vm ∧ U.heap = h0) (fun _ _ _ _ _ => True) (fun _ U o U' => ∃ v L, o = .returned v ∧ own_Q h0 n0 (some (.int (1 : Int32))) v U'.heap L ∧ FrameEnd U o U' L ({ frames := 0, cells := 0, slots := 0, locals := 0 } : Room).cells ({ frames := 0, cells := 0, slots := 0, locals := 0 } : Room).slots) := by
  obtain ⟨S_PATH, E_PATH, S_STATUS, E_STATUS, S_COMMIT, E_COMMIT, S_RANGE, E_RANGE, S_WRITE, E_WRITE, S_READ, E_READ, F_PATH_ordinal, F_STATUS_ordinal, F_COMMIT_ordinal, F_RANGE_ordinal, F_WRITE_ordinal, F_READ_ordinal⟩ := PN
  refine MetFree.of_bodySF (plainFor_of_name pn_com_example_uni_lock_unilock_cli_Command) hisR ?_
  intro p e s m args below meth c s₁ Bd hml0 hP hK
  obtain ⟨rfl, hZ, hh⟩ := hP
  have hx := Bd.exec
  have hby := Bd.bytes
  have hml : c.maxLocals = 1 := hml0
  have hown : s.vm.findClass "com/example/uni_lock/unilock/cli/Command" = some m.cls := findClass_of_methodNamed Bd.named
  have X0 : Stand p l e ({ frames := 0, cells := 0, slots := 0, locals := 0 } : Room) s m #[(.ref w_PATH)] below meth c s₁ [] 0 0 := Stand.of_body Bd
  have e0 : s₁.heap = h0 := by rw [← hh, Bd.state]; rfl
  have N0 := Fr.nil n0
  refine (?_ : own_Fin p e below _ _)
  refine own_st (fun t k => castTop (ef_4_R m w_PATH) k) ?_
  show own_Fin p e below _ (s₁.setTop (mkF m 0 #[.val (.ref w_PATH)] []))
  refine own_st (fun t k => XS.aloadN X0.here hx rfl (hb hby d4_0) rfl rfl k) ?_
  show own_Fin p e below _ (s₁.setTop (mkF m 1 #[.val (.ref w_PATH)] [(.ref w_PATH)]))
  obtain ⟨T1, X1, e1, st1⟩ := getS2 X0 hx hZ hown (host := "") (Or.inl (hw _ (List.mem_of_getElem? (i := 24) rfl))) Via.refl e0 S_STATUS (g := (mkF m 1 #[.val (.ref w_PATH)] [(.ref w_PATH)])) rfl (hb hby d4_1)
  refine own_st st1 ?_
  show own_Fin p e below _ (T1.setTop (mkF m 4 #[.val (.ref w_PATH)] [(.ref w_STATUS), (.ref w_PATH)]))
  refine own_st (fun t k => Jvm.RoadKit.acmp (g := (mkF m 4 #[.val (.ref w_PATH)] [(.ref w_STATUS), (.ref w_PATH)])) X1 hx rfl rfl rfl (pc0 := 4) (pc' := 7) (same := false) rfl (hb hby d4_4) rfl (decide_eq_false fun q => (Fld.ne F_PATH_ordinal F_STATUS_ordinal (by simp)) (Value.ref.inj q)) (by decide) (by decide) k) ?_
  show own_Fin p e below _ (T1.setTop (mkF m 7 #[.val (.ref w_PATH)] []))
  refine own_st (fun t k => XS.iconst X1.here hx rfl (hb hby d4_7) k) ?_
  show own_Fin p e below _ (T1.setTop (mkF m 8 #[.val (.ref w_PATH)] [(.int (1 : Int32))]))
  refine own_st (fun t k => XS.goto X1.here hx rfl (pc0 := 8) (pc' := 12) rfl (hb hby d4_8) (by decide) (by decide) k) ?_
  show own_Fin p e below _ (T1.setTop (mkF m 12 #[.val (.ref w_PATH)] [(.int (1 : Int32))]))
  obtain ⟨fs, hr, hrun, hended, hW, hsame⟩ := X1.leave (v := some (.int (1 : Int32))) (fun h => by rw [Bd.returns] at h; cases h)
  exact ⟨_, _, retN X1 hx (t := .boolean) Bd.returns (by simp) (hb hby d4_12) hr, hrun, hended, _, _, rfl, ⟨rfl, N0, e1⟩, ⟨_, rfl⟩, hW, hsame.mono (by decide) (by decide)⟩
theorem ef_0_I (m : MethodId) (x0 : Int32) : entryFrame m #[(.int x0)] maxLocals = mkF m 0 #[.val (.int x0), .unset, .unset, .unset, .unset, .unset, .unset] [] := by first | (simp [entryFrame, mkF, argsToLocals, Value.category, maxLocals]; done) | rfl
set_option maxRecDepth 65536 in
set_option maxHeartbeats 40000000 in
theorem rm0_c0 (l : Launch) (Z : State) (a0 : Array Value) (hw : ∀ d ∈ tables_1, d.before a0 Z = true) (ws : List Jvm.Cond) (w_PATH w_STATUS w_COMMIT w_RANGE w_WRITE w_READ : Addr) (p0 : Int32) (h0 : Heap) (n0 : Nat) (PN : own_Pins Z h0 w_PATH w_STATUS w_COMMIT w_RANGE w_WRITE w_READ) (q0 : ((p0 &&& (2147483647 : Int32)) % (6 : Int32)) = (0 : Int32)) :
    MetFree l x (head1 (Jvm.Cond.code x code maxLocals ret :: ws) room_1) (fun a U => a = #[(.int p0)] ∧ Z.Warmed39 U.vm ∧ U.heap = h0) (fun _ _ _ _ _ => True) (fun _ U o U' => ∃ v L, o = .returned v ∧ own_Q h0 n0 (some (.int (1 : Int32))) v U'.heap L ∧ FrameEnd U o U' L room_1.cells room_1.slots) := by
  obtain ⟨S_PATH, E_PATH, S_STATUS, E_STATUS, S_COMMIT, E_COMMIT, S_RANGE, E_RANGE, S_WRITE, E_WRITE, S_READ, E_READ, F_PATH_ordinal, F_STATUS_ordinal, F_COMMIT_ordinal, F_RANGE_ordinal, F_WRITE_ordinal, F_READ_ordinal⟩ := PN
  refine MetFree.of_bodySF (plainFor_of_name pn_com_example_uni_lock_unilock_cli_CommandTakesSharedPinLaw) hisR ?_
  intro p e s m args below meth c s₁ Bd hml0 hP hK
  obtain ⟨rfl, hZ, hh⟩ := hP
  have hx := Bd.exec
  have hby := Bd.bytes
  have hml : c.maxLocals = 7 := hml0
  have hown : s.vm.findClass "com/example/uni_lock/unilock/cli/CommandTakesSharedPinLaw" = some m.cls := findClass_of_methodNamed Bd.named
  have X0 : Stand p l e room_1 s m #[(.int p0)] below meth c s₁ [] 0 0 := Stand.of_body Bd
  have e0 : s₁.heap = h0 := by rw [← hh, Bd.state]; rfl
  have N0 := Fr.nil n0
  refine (?_ : own_Fin p e below _ _)
  refine own_st (fun t k => castTop (ef_0_I m p0) k) ?_
  show own_Fin p e below _ (s₁.setTop (mkF m 0 #[.val (.int p0), .unset, .unset, .unset, .unset, .unset, .unset] []))
  refine own_st (fun t k => XS.iloadN X0.here hx rfl (hb hby at_0) rfl k) ?_
  show own_Fin p e below _ (s₁.setTop (mkF m 1 #[.val (.int p0), .unset, .unset, .unset, .unset, .unset, .unset] [(.int p0)]))
  refine own_st (fun t k => X0.ldcI hx hown (mvT hZ (hw _ (List.mem_of_getElem? (i := 0) rfl))) rfl (hb hby at_1) k) ?_
  show own_Fin p e below _ (s₁.setTop (mkF m 3 #[.val (.int p0), .unset, .unset, .unset, .unset, .unset, .unset] [(.int (2147483647 : Int32)), (.int p0)]))
  refine own_st (fun t k => XS.iand X0.here hx rfl (hb hby at_3) rfl k) ?_
  show own_Fin p e below _ (s₁.setTop (mkF m 4 #[.val (.int p0), .unset, .unset, .unset, .unset, .unset, .unset] [(.int (p0 &&& (2147483647 : Int32)))]))
  refine own_st (fun t k => XS.bipush X0.here hx rfl (hb hby at_4) k) ?_
  show own_Fin p e below _ (s₁.setTop (mkF m 6 #[.val (.int p0), .unset, .unset, .unset, .unset, .unset, .unset] [(.int (6 : Int32)), (.int (p0 &&& (2147483647 : Int32)))]))
  refine own_st (fun t k => iremM X0 hx rfl (hb hby at_6) rfl (by decide) k) ?_
  show own_Fin p e below _ (s₁.setTop (mkF m 7 #[.val (.int p0), .unset, .unset, .unset, .unset, .unset, .unset] [(.int ((p0 &&& (2147483647 : Int32)) % (6 : Int32)))]))
  rw [q0]
  show own_Fin p e below _ (s₁.setTop (mkF m 7 #[.val (.int p0), .unset, .unset, .unset, .unset, .unset, .unset] [(.int (0 : Int32))]))
  refine own_st (fun t k => XS.istoreN X0.here hx rfl (hb hby at_7) rfl (l' := #[.val (.int p0), .val (.int (0 : Int32)), .unset, .unset, .unset, .unset, .unset]) rfl k) ?_
  show own_Fin p e below _ (s₁.setTop (mkF m 8 #[.val (.int p0), .val (.int (0 : Int32)), .unset, .unset, .unset, .unset, .unset] []))
  refine own_st (fun t k => XS.iloadN X0.here hx rfl (hb hby at_8) rfl k) ?_
  show own_Fin p e below _ (s₁.setTop (mkF m 9 #[.val (.int p0), .val (.int (0 : Int32)), .unset, .unset, .unset, .unset, .unset] [(.int (0 : Int32))]))
  obtain ⟨_, _, ⟨T1, L1, k1, n1⟩, -, X1, ⟨Lc1, hQ1, l1, y1, z1⟩, st1⟩ := Jvm.LawKit.callS X0 hx (y := (⟨"com/example/uni_lock/unilock/cli/CommandTakesSharedPinLaw", "pick", "(I)Lcom/example/uni_lock/unilock/cli/Command;"⟩ : MethodName)) hown (mvT hZ (hw _ (List.mem_of_getElem? (i := 1) rfl))) (mvT hZ (hw _ (List.mem_of_getElem? (i := 2) rfl))) (mvT hZ (hw _ (List.mem_of_getElem? (i := 3) rfl))) (mvT hZ (hw _ (List.mem_of_getElem? (i := 4) rfl))) (by decide) (backOf (W := 0) (rm1_0 l Z a0 hw [] w_PATH w_STATUS w_COMMIT w_RANGE w_WRITE w_READ h0 n0 (by exact ⟨S_PATH, E_PATH, S_STATUS, E_STATUS, S_COMMIT, E_COMMIT, S_RANGE, E_RANGE, S_WRITE, E_WRITE, S_READ, E_READ, F_PATH_ordinal, F_STATUS_ordinal, F_COMMIT_ordinal, F_RANGE_ordinal, F_WRITE_ordinal, F_READ_ordinal⟩)) hZ (hw _ (List.mem_of_getElem? (i := 4) rfl)) (hw _ (List.mem_of_getElem? (i := 3) rfl)) (by decide) (by decide)) (g := (mkF m 9 #[.val (.int p0), .val (.int (0 : Int32)), .unset, .unset, .unset, .unset, .unset] [(.int (0 : Int32))])) rfl (by rw [hml]; rfl) (argsL := [(.int (0 : Int32))]) (rest := []) (lenOf pd__I_Lcom_example_uni_lock_unilock_cli_Command_ rfl) rfl (by show 2 * 0 + _ ≤ _; exact Nat.le_of_eq rfl) (hb hby at_9) (fun _ _ => ⟨rfl, e0, (by decide : 0 + 0 ≤ _), (by decide : 0 + 0 ≤ _)⟩)
  dsimp only [Pt.U, Pt.locs, Pt.cells, Pt.slots] at X1 l1 y1 z1 st1 hQ1
  subst l1 y1 z1
  obtain ⟨rfl, N1q, e1⟩ := hQ1
  have N1 := Fr.app N0 N1q
  refine own_st st1 ?_
  show own_Fin p e below _ (T1.setTop (mkF m 12 #[.val (.int p0), .val (.int (0 : Int32)), .unset, .unset, .unset, .unset, .unset] [(.ref w_PATH)]))
  refine own_st (fun t k => XS.astoreN X1.here hx rfl (hb hby at_12) rfl rfl (l' := #[.val (.int p0), .val (.int (0 : Int32)), .val (.ref w_PATH), .unset, .unset, .unset, .unset]) rfl k) ?_
  show own_Fin p e below _ (T1.setTop (mkF m 13 #[.val (.int p0), .val (.int (0 : Int32)), .val (.ref w_PATH), .unset, .unset, .unset, .unset] []))
  refine own_st (fun t k => XS.aloadN X1.here hx rfl (hb hby at_13) rfl rfl k) ?_
  show own_Fin p e below _ (T1.setTop (mkF m 14 #[.val (.int p0), .val (.int (0 : Int32)), .val (.ref w_PATH), .unset, .unset, .unset, .unset] [(.ref w_PATH)]))
  obtain ⟨cq2, kq2, q2a, q2b, q2c⟩ := isOf hZ e1 E_PATH
  obtain ⟨_, _, ⟨T2, L2, k2, n2⟩, -, X2, ⟨Lc2, hQ2, l2, y2, z2⟩, st2⟩ := X1.virtualBack hx (y := (⟨"com/example/uni_lock/unilock/cli/Command", "takesShared", "()Z"⟩ : MethodName)) (z := (⟨"com/example/uni_lock/unilock/cli/Command", "takesShared", "()Z"⟩ : MethodName)) hown (mvT hZ (hw _ (List.mem_of_getElem? (i := 8) rfl))) (mvT hZ (hw _ (List.mem_of_getElem? (i := 9) rfl))) (notFace_of_selects (args := #[]) (mvT hZ (hw _ (List.mem_of_getElem? (i := 11) rfl)))) (mvT hZ (hw _ (List.mem_of_getElem? (i := 11) rfl))) (mvT hZ (hw _ (List.mem_of_getElem? (i := 10) rfl))) (by decide) (backOf (W := 0) (rm2_w_PATH l Z a0 hw [] w_PATH w_STATUS w_COMMIT w_RANGE w_WRITE w_READ h0 n0 (by exact ⟨S_PATH, E_PATH, S_STATUS, E_STATUS, S_COMMIT, E_COMMIT, S_RANGE, E_RANGE, S_WRITE, E_WRITE, S_READ, E_READ, F_PATH_ordinal, F_STATUS_ordinal, F_COMMIT_ordinal, F_RANGE_ordinal, F_WRITE_ordinal, F_READ_ordinal⟩)) hZ (hw _ (List.mem_of_getElem? (i := 12) rfl)) (hw _ (List.mem_of_getElem? (i := 6) rfl)) (by decide) (by decide)) q2a q2c (g := (mkF m 14 #[.val (.int p0), .val (.int (0 : Int32)), .val (.ref w_PATH), .unset, .unset, .unset, .unset] [(.ref w_PATH)])) rfl (by rw [hml]; rfl) (Steps.refl _) (argsL := []) (rest := []) (lenOf pd___Z rfl) rfl (by show 2 * 0 + _ ≤ _; exact Nat.le_of_eq rfl) (hb hby at_14) (fun _ _ => ⟨rfl, e1, (by decide : 0 + 0 ≤ _), (by decide : 0 + 0 ≤ _)⟩)
  dsimp only [Pt.U, Pt.locs, Pt.cells, Pt.slots] at X2 l2 y2 z2 st2 hQ2
  subst l2 y2 z2
  obtain ⟨rfl, N2q, e2⟩ := hQ2
  have N2 := Fr.app N1 N2q
  refine own_tr st2 ?_
  show own_Fin p e below _ (T2.setTop (mkF m 17 #[.val (.int p0), .val (.int (0 : Int32)), .val (.ref w_PATH), .unset, .unset, .unset, .unset] [(.int (1 : Int32))]))
  refine own_st (fun t k => XS.istoreN X2.here hx rfl (hb hby at_17) rfl (l' := #[.val (.int p0), .val (.int (0 : Int32)), .val (.ref w_PATH), .val (.int (1 : Int32)), .unset, .unset, .unset]) rfl k) ?_
  show own_Fin p e below _ (T2.setTop (mkF m 18 #[.val (.int p0), .val (.int (0 : Int32)), .val (.ref w_PATH), .val (.int (1 : Int32)), .unset, .unset, .unset] []))
  refine own_st (fun t k => XS.iloadN X2.here hx rfl (hb hby at_18) rfl k) ?_
  show own_Fin p e below _ (T2.setTop (mkF m 19 #[.val (.int p0), .val (.int (0 : Int32)), .val (.ref w_PATH), .val (.int (1 : Int32)), .unset, .unset, .unset] [(.int (0 : Int32))]))
  refine own_st (fun t k => XS.ifYes X2.here hx rfl (pc0 := 19) (pc' := 27) rfl (hb hby at_19) rfl (by decide) (by decide) (by decide) k) ?_
  show own_Fin p e below _ (T2.setTop (mkF m 27 #[.val (.int p0), .val (.int (0 : Int32)), .val (.ref w_PATH), .val (.int (1 : Int32)), .unset, .unset, .unset] []))
  refine own_st (fun t k => XS.iconst X2.here hx rfl (hb hby at_27) k) ?_
  show own_Fin p e below _ (T2.setTop (mkF m 28 #[.val (.int p0), .val (.int (0 : Int32)), .val (.ref w_PATH), .val (.int (1 : Int32)), .unset, .unset, .unset] [(.int (1 : Int32))]))
  refine own_st (fun t k => XS.goto X2.here hx rfl (pc0 := 28) (pc' := 32) rfl (hb hby at_28) (by decide) (by decide) k) ?_
  show own_Fin p e below _ (T2.setTop (mkF m 32 #[.val (.int p0), .val (.int (0 : Int32)), .val (.ref w_PATH), .val (.int (1 : Int32)), .unset, .unset, .unset] [(.int (1 : Int32))]))
  refine own_st (fun t k => XS.istore X2.here hx rfl (hb hby at_32) rfl (l' := #[.val (.int p0), .val (.int (0 : Int32)), .val (.ref w_PATH), .val (.int (1 : Int32)), .val (.int (1 : Int32)), .unset, .unset]) rfl k) ?_
  show own_Fin p e below _ (T2.setTop (mkF m 34 #[.val (.int p0), .val (.int (0 : Int32)), .val (.ref w_PATH), .val (.int (1 : Int32)), .val (.int (1 : Int32)), .unset, .unset] []))
  refine own_st (fun t k => XS.aloadN X2.here hx rfl (hb hby at_34) rfl rfl k) ?_
  show own_Fin p e below _ (T2.setTop (mkF m 35 #[.val (.int p0), .val (.int (0 : Int32)), .val (.ref w_PATH), .val (.int (1 : Int32)), .val (.int (1 : Int32)), .unset, .unset] [(.ref w_PATH)]))
  obtain ⟨cq3, kq3, q3a, q3b, q3c⟩ := isOf hZ e2 E_PATH
  obtain ⟨_, _, ⟨T3, L3, k3, n3⟩, -, X3, ⟨Lc3, hQ3, l3, y3, z3⟩, st3⟩ := X2.virtualBack hx (y := (⟨"com/example/uni_lock/unilock/cli/Command", "takesDelete", "()Z"⟩ : MethodName)) (z := (⟨"com/example/uni_lock/unilock/cli/Command", "takesDelete", "()Z"⟩ : MethodName)) hown (mvT hZ (hw _ (List.mem_of_getElem? (i := 14) rfl))) (mvT hZ (hw _ (List.mem_of_getElem? (i := 15) rfl))) (notFace_of_selects (args := #[]) (mvT hZ (hw _ (List.mem_of_getElem? (i := 17) rfl)))) (mvT hZ (hw _ (List.mem_of_getElem? (i := 17) rfl))) (mvT hZ (hw _ (List.mem_of_getElem? (i := 16) rfl))) (by decide) (backOf (W := 0) (rm3_w_PATH l Z a0 hw [] w_PATH w_STATUS w_COMMIT w_RANGE w_WRITE w_READ h0 n0 (by exact ⟨S_PATH, E_PATH, S_STATUS, E_STATUS, S_COMMIT, E_COMMIT, S_RANGE, E_RANGE, S_WRITE, E_WRITE, S_READ, E_READ, F_PATH_ordinal, F_STATUS_ordinal, F_COMMIT_ordinal, F_RANGE_ordinal, F_WRITE_ordinal, F_READ_ordinal⟩)) hZ (hw _ (List.mem_of_getElem? (i := 18) rfl)) (hw _ (List.mem_of_getElem? (i := 6) rfl)) (by decide) (by decide)) q3a q3c (g := (mkF m 35 #[.val (.int p0), .val (.int (0 : Int32)), .val (.ref w_PATH), .val (.int (1 : Int32)), .val (.int (1 : Int32)), .unset, .unset] [(.ref w_PATH)])) rfl (by rw [hml]; rfl) (Steps.refl _) (argsL := []) (rest := []) (lenOf pd___Z rfl) rfl (by show 2 * 0 + _ ≤ _; exact Nat.le_of_eq rfl) (hb hby at_35) (fun _ _ => ⟨rfl, e2, (by decide : 0 + 0 ≤ _), (by decide : 0 + 0 ≤ _)⟩)
  dsimp only [Pt.U, Pt.locs, Pt.cells, Pt.slots] at X3 l3 y3 z3 st3 hQ3
  subst l3 y3 z3
  obtain ⟨rfl, N3q, e3⟩ := hQ3
  have N3 := Fr.app N2 N3q
  refine own_tr st3 ?_
  show own_Fin p e below _ (T3.setTop (mkF m 38 #[.val (.int p0), .val (.int (0 : Int32)), .val (.ref w_PATH), .val (.int (1 : Int32)), .val (.int (1 : Int32)), .unset, .unset] [(.int (1 : Int32))]))
  refine own_st (fun t k => XS.ifYes X3.here hx rfl (pc0 := 38) (pc' := 48) rfl (hb hby at_38) rfl (by decide) (by decide) (by decide) k) ?_
  show own_Fin p e below _ (T3.setTop (mkF m 48 #[.val (.int p0), .val (.int (0 : Int32)), .val (.ref w_PATH), .val (.int (1 : Int32)), .val (.int (1 : Int32)), .unset, .unset] []))
  refine own_st (fun t k => XS.iconst X3.here hx rfl (hb hby at_48) k) ?_
  show own_Fin p e below _ (T3.setTop (mkF m 49 #[.val (.int p0), .val (.int (0 : Int32)), .val (.ref w_PATH), .val (.int (1 : Int32)), .val (.int (1 : Int32)), .unset, .unset] [(.int (1 : Int32))]))
  refine own_st (fun t k => XS.goto X3.here hx rfl (pc0 := 49) (pc' := 53) rfl (hb hby at_49) (by decide) (by decide) k) ?_
  show own_Fin p e below _ (T3.setTop (mkF m 53 #[.val (.int p0), .val (.int (0 : Int32)), .val (.ref w_PATH), .val (.int (1 : Int32)), .val (.int (1 : Int32)), .unset, .unset] [(.int (1 : Int32))]))
  refine own_st (fun t k => XS.istore X3.here hx rfl (hb hby at_53) rfl (l' := #[.val (.int p0), .val (.int (0 : Int32)), .val (.ref w_PATH), .val (.int (1 : Int32)), .val (.int (1 : Int32)), .val (.int (1 : Int32)), .unset]) rfl k) ?_
  show own_Fin p e below _ (T3.setTop (mkF m 55 #[.val (.int p0), .val (.int (0 : Int32)), .val (.ref w_PATH), .val (.int (1 : Int32)), .val (.int (1 : Int32)), .val (.int (1 : Int32)), .unset] []))
  refine own_st (fun t k => XS.iloadN X3.here hx rfl (hb hby at_55) rfl k) ?_
  show own_Fin p e below _ (T3.setTop (mkF m 56 #[.val (.int p0), .val (.int (0 : Int32)), .val (.ref w_PATH), .val (.int (1 : Int32)), .val (.int (1 : Int32)), .val (.int (1 : Int32)), .unset] [(.int (1 : Int32))]))
  refine own_st (fun t k => XS.ifNo X3.here hx rfl (hb hby at_56) rfl (by decide) k) ?_
  show own_Fin p e below _ (T3.setTop (mkF m 59 #[.val (.int p0), .val (.int (0 : Int32)), .val (.ref w_PATH), .val (.int (1 : Int32)), .val (.int (1 : Int32)), .val (.int (1 : Int32)), .unset] []))
  refine own_st (fun t k => XS.aloadN X3.here hx rfl (hb hby at_59) rfl rfl k) ?_
  show own_Fin p e below _ (T3.setTop (mkF m 60 #[.val (.int p0), .val (.int (0 : Int32)), .val (.ref w_PATH), .val (.int (1 : Int32)), .val (.int (1 : Int32)), .val (.int (1 : Int32)), .unset] [(.ref w_PATH)]))
  obtain ⟨cq4, kq4, q4a, q4b, q4c⟩ := isOf hZ e3 E_PATH
  obtain ⟨_, _, ⟨T4, L4, k4, n4⟩, -, X4, ⟨Lc4, hQ4, l4, y4, z4⟩, st4⟩ := X3.virtualBack hx (y := (⟨"com/example/uni_lock/unilock/cli/Command", "locks", "()Z"⟩ : MethodName)) (z := (⟨"com/example/uni_lock/unilock/cli/Command", "locks", "()Z"⟩ : MethodName)) hown (mvT hZ (hw _ (List.mem_of_getElem? (i := 19) rfl))) (mvT hZ (hw _ (List.mem_of_getElem? (i := 20) rfl))) (notFace_of_selects (args := #[]) (mvT hZ (hw _ (List.mem_of_getElem? (i := 22) rfl)))) (mvT hZ (hw _ (List.mem_of_getElem? (i := 22) rfl))) (mvT hZ (hw _ (List.mem_of_getElem? (i := 21) rfl))) (by decide) (backOf (W := 0) (rm4_w_PATH l Z a0 hw [] w_PATH w_STATUS w_COMMIT w_RANGE w_WRITE w_READ h0 n0 (by exact ⟨S_PATH, E_PATH, S_STATUS, E_STATUS, S_COMMIT, E_COMMIT, S_RANGE, E_RANGE, S_WRITE, E_WRITE, S_READ, E_READ, F_PATH_ordinal, F_STATUS_ordinal, F_COMMIT_ordinal, F_RANGE_ordinal, F_WRITE_ordinal, F_READ_ordinal⟩)) hZ (hw _ (List.mem_of_getElem? (i := 23) rfl)) (hw _ (List.mem_of_getElem? (i := 6) rfl)) (by decide) (by decide)) q4a q4c (g := (mkF m 60 #[.val (.int p0), .val (.int (0 : Int32)), .val (.ref w_PATH), .val (.int (1 : Int32)), .val (.int (1 : Int32)), .val (.int (1 : Int32)), .unset] [(.ref w_PATH)])) rfl (by rw [hml]; rfl) (Steps.refl _) (argsL := []) (rest := []) (lenOf pd___Z rfl) rfl (by show 2 * 0 + _ ≤ _; exact Nat.le_of_eq rfl) (hb hby at_60) (fun _ _ => ⟨rfl, e3, (by decide : 0 + 0 ≤ _), (by decide : 0 + 0 ≤ _)⟩)
  dsimp only [Pt.U, Pt.locs, Pt.cells, Pt.slots] at X4 l4 y4 z4 st4 hQ4
  subst l4 y4 z4
  obtain ⟨rfl, N4q, e4⟩ := hQ4
  have N4 := Fr.app N3 N4q
  refine own_tr st4 ?_
  show own_Fin p e below _ (T4.setTop (mkF m 63 #[.val (.int p0), .val (.int (0 : Int32)), .val (.ref w_PATH), .val (.int (1 : Int32)), .val (.int (1 : Int32)), .val (.int (1 : Int32)), .unset] [(.int (1 : Int32))]))
  refine own_st (fun t k => XS.ifNo X4.here hx rfl (hb hby at_63) rfl (by decide) k) ?_
  show own_Fin p e below _ (T4.setTop (mkF m 66 #[.val (.int p0), .val (.int (0 : Int32)), .val (.ref w_PATH), .val (.int (1 : Int32)), .val (.int (1 : Int32)), .val (.int (1 : Int32)), .unset] []))
  refine own_st (fun t k => XS.iconst X4.here hx rfl (hb hby at_66) k) ?_
  show own_Fin p e below _ (T4.setTop (mkF m 67 #[.val (.int p0), .val (.int (0 : Int32)), .val (.ref w_PATH), .val (.int (1 : Int32)), .val (.int (1 : Int32)), .val (.int (1 : Int32)), .unset] [(.int (1 : Int32))]))
  refine own_st (fun t k => XS.goto X4.here hx rfl (pc0 := 67) (pc' := 71) rfl (hb hby at_67) (by decide) (by decide) k) ?_
  show own_Fin p e below _ (T4.setTop (mkF m 71 #[.val (.int p0), .val (.int (0 : Int32)), .val (.ref w_PATH), .val (.int (1 : Int32)), .val (.int (1 : Int32)), .val (.int (1 : Int32)), .unset] [(.int (1 : Int32))]))
  refine own_st (fun t k => XS.istore X4.here hx rfl (hb hby at_71) rfl (l' := #[.val (.int p0), .val (.int (0 : Int32)), .val (.ref w_PATH), .val (.int (1 : Int32)), .val (.int (1 : Int32)), .val (.int (1 : Int32)), .val (.int (1 : Int32))]) rfl k) ?_
  show own_Fin p e below _ (T4.setTop (mkF m 73 #[.val (.int p0), .val (.int (0 : Int32)), .val (.ref w_PATH), .val (.int (1 : Int32)), .val (.int (1 : Int32)), .val (.int (1 : Int32)), .val (.int (1 : Int32))] []))
  refine own_st (fun t k => XS.iloadN X4.here hx rfl (hb hby at_73) rfl k) ?_
  show own_Fin p e below _ (T4.setTop (mkF m 74 #[.val (.int p0), .val (.int (0 : Int32)), .val (.ref w_PATH), .val (.int (1 : Int32)), .val (.int (1 : Int32)), .val (.int (1 : Int32)), .val (.int (1 : Int32))] [(.int (1 : Int32))]))
  refine own_st (fun t k => XS.iload X4.here hx rfl (hb hby at_74) rfl k) ?_
  show own_Fin p e below _ (T4.setTop (mkF m 76 #[.val (.int p0), .val (.int (0 : Int32)), .val (.ref w_PATH), .val (.int (1 : Int32)), .val (.int (1 : Int32)), .val (.int (1 : Int32)), .val (.int (1 : Int32))] [(.int (1 : Int32)), (.int (1 : Int32))]))
  refine own_st (fun t k => XS.icmpNo X4.here hx rfl (hb hby at_76) rfl (by decide) k) ?_
  show own_Fin p e below _ (T4.setTop (mkF m 79 #[.val (.int p0), .val (.int (0 : Int32)), .val (.ref w_PATH), .val (.int (1 : Int32)), .val (.int (1 : Int32)), .val (.int (1 : Int32)), .val (.int (1 : Int32))] []))
  refine own_st (fun t k => XS.iloadN X4.here hx rfl (hb hby at_79) rfl k) ?_
  show own_Fin p e below _ (T4.setTop (mkF m 80 #[.val (.int p0), .val (.int (0 : Int32)), .val (.ref w_PATH), .val (.int (1 : Int32)), .val (.int (1 : Int32)), .val (.int (1 : Int32)), .val (.int (1 : Int32))] [(.int (1 : Int32))]))
  refine own_st (fun t k => XS.iload X4.here hx rfl (hb hby at_80) rfl k) ?_
  show own_Fin p e below _ (T4.setTop (mkF m 82 #[.val (.int p0), .val (.int (0 : Int32)), .val (.ref w_PATH), .val (.int (1 : Int32)), .val (.int (1 : Int32)), .val (.int (1 : Int32)), .val (.int (1 : Int32))] [(.int (1 : Int32)), (.int (1 : Int32))]))
  refine own_st (fun t k => XS.icmpNo X4.here hx rfl (hb hby at_82) rfl (by decide) k) ?_
  show own_Fin p e below _ (T4.setTop (mkF m 85 #[.val (.int p0), .val (.int (0 : Int32)), .val (.ref w_PATH), .val (.int (1 : Int32)), .val (.int (1 : Int32)), .val (.int (1 : Int32)), .val (.int (1 : Int32))] []))
  refine own_st (fun t k => XS.iload X4.here hx rfl (hb hby at_85) rfl k) ?_
  show own_Fin p e below _ (T4.setTop (mkF m 87 #[.val (.int p0), .val (.int (0 : Int32)), .val (.ref w_PATH), .val (.int (1 : Int32)), .val (.int (1 : Int32)), .val (.int (1 : Int32)), .val (.int (1 : Int32))] [(.int (1 : Int32))]))
  refine own_st (fun t k => XS.ifNo X4.here hx rfl (hb hby at_87) rfl (by decide) k) ?_
  show own_Fin p e below _ (T4.setTop (mkF m 90 #[.val (.int p0), .val (.int (0 : Int32)), .val (.ref w_PATH), .val (.int (1 : Int32)), .val (.int (1 : Int32)), .val (.int (1 : Int32)), .val (.int (1 : Int32))] []))
  refine own_st (fun t k => XS.iconst X4.here hx rfl (hb hby at_90) k) ?_
  show own_Fin p e below _ (T4.setTop (mkF m 91 #[.val (.int p0), .val (.int (0 : Int32)), .val (.ref w_PATH), .val (.int (1 : Int32)), .val (.int (1 : Int32)), .val (.int (1 : Int32)), .val (.int (1 : Int32))] [(.int (1 : Int32))]))
  refine own_st (fun t k => XS.goto X4.here hx rfl (pc0 := 91) (pc' := 95) rfl (hb hby at_91) (by decide) (by decide) k) ?_
  show own_Fin p e below _ (T4.setTop (mkF m 95 #[.val (.int p0), .val (.int (0 : Int32)), .val (.ref w_PATH), .val (.int (1 : Int32)), .val (.int (1 : Int32)), .val (.int (1 : Int32)), .val (.int (1 : Int32))] [(.int (1 : Int32))]))
  obtain ⟨fs, hr, hrun, hended, hW, hsame⟩ := X4.leave (v := some (.int (1 : Int32))) (fun h => by rw [Bd.returns] at h; cases h)
  exact ⟨_, _, retN X4 hx (t := .boolean) Bd.returns (by simp) (hb hby at_95) hr, hrun, hended, _, _, rfl, ⟨rfl, N4, e4⟩, ⟨_, rfl⟩, hW, hsame.mono (by decide) (by decide)⟩
theorem d1_8 : decode method_2_code 8 = .ok (.iload_n 0, 1) := by decide +kernel
theorem d1_9 : decode method_2_code 9 = .ok (.iconst 1, 1) := by decide +kernel
theorem d1_10 : decode method_2_code 10 = .ok (.if_icmp .ne 7, 3) := by decide +kernel
theorem d1_13 : decode method_2_code 13 = .ok (.getstatic 13, 3) := by decide +kernel
theorem d1_16 : decode method_2_code 16 = .ok (.areturn, 1) := by decide +kernel
set_option maxRecDepth 65536 in
set_option maxHeartbeats 40000000 in
theorem rm1_1 (l : Launch) (Z : State) (a0 : Array Value) (hw : ∀ d ∈ tables_1, d.before a0 Z = true) (ws : List Jvm.Cond) (w_PATH w_STATUS w_COMMIT w_RANGE w_WRITE w_READ : Addr) (h0 : Heap) (n0 : Nat) (PN : own_Pins Z h0 w_PATH w_STATUS w_COMMIT w_RANGE w_WRITE w_READ) :
    MetFree l (⟨"com/example/uni_lock/unilock/cli/CommandTakesSharedPinLaw", "pick", "(I)Lcom/example/uni_lock/unilock/cli/Command;"⟩ : MethodName) (head1 (Jvm.Cond.code (⟨"com/example/uni_lock/unilock/cli/CommandTakesSharedPinLaw", "pick", "(I)Lcom/example/uni_lock/unilock/cli/Command;"⟩ : MethodName) method_2_code 1 (some (.object "com/example/uni_lock/unilock/cli/Command")) :: ws) ({ frames := 0, cells := 0, slots := 0, locals := 0 } : Room)) (fun a U => a = #[(.int (1 : Int32))] ∧ Z.Warmed39 U.vm ∧ U.heap = h0) (fun _ _ _ _ _ => True) (fun _ U o U' => ∃ v L, o = .returned v ∧ own_Q h0 n0 (some (.ref w_READ)) v U'.heap L ∧ FrameEnd U o U' L ({ frames := 0, cells := 0, slots := 0, locals := 0 } : Room).cells ({ frames := 0, cells := 0, slots := 0, locals := 0 } : Room).slots) := by
  obtain ⟨S_PATH, E_PATH, S_STATUS, E_STATUS, S_COMMIT, E_COMMIT, S_RANGE, E_RANGE, S_WRITE, E_WRITE, S_READ, E_READ, F_PATH_ordinal, F_STATUS_ordinal, F_COMMIT_ordinal, F_RANGE_ordinal, F_WRITE_ordinal, F_READ_ordinal⟩ := PN
  refine MetFree.of_bodySF (plainFor_of_name pn_com_example_uni_lock_unilock_cli_CommandTakesSharedPinLaw) hisR ?_
  intro p e s m args below meth c s₁ Bd hml0 hP hK
  obtain ⟨rfl, hZ, hh⟩ := hP
  have hx := Bd.exec
  have hby := Bd.bytes
  have hml : c.maxLocals = 1 := hml0
  have hown : s.vm.findClass "com/example/uni_lock/unilock/cli/CommandTakesSharedPinLaw" = some m.cls := findClass_of_methodNamed Bd.named
  have X0 : Stand p l e ({ frames := 0, cells := 0, slots := 0, locals := 0 } : Room) s m #[(.int (1 : Int32))] below meth c s₁ [] 0 0 := Stand.of_body Bd
  have e0 : s₁.heap = h0 := by rw [← hh, Bd.state]; rfl
  have N0 := Fr.nil n0
  refine (?_ : own_Fin p e below _ _)
  refine own_st (fun t k => castTop (ef_1_I m (1 : Int32)) k) ?_
  show own_Fin p e below _ (s₁.setTop (mkF m 0 #[.val (.int (1 : Int32))] []))
  refine own_st (fun t k => XS.iloadN X0.here hx rfl (hb hby d1_0) rfl k) ?_
  show own_Fin p e below _ (s₁.setTop (mkF m 1 #[.val (.int (1 : Int32))] [(.int (1 : Int32))]))
  refine own_st (fun t k => XS.ifYes X0.here hx rfl (pc0 := 1) (pc' := 8) rfl (hb hby d1_1) rfl (by decide) (by decide) (by decide) k) ?_
  show own_Fin p e below _ (s₁.setTop (mkF m 8 #[.val (.int (1 : Int32))] []))
  refine own_st (fun t k => XS.iloadN X0.here hx rfl (hb hby d1_8) rfl k) ?_
  show own_Fin p e below _ (s₁.setTop (mkF m 9 #[.val (.int (1 : Int32))] [(.int (1 : Int32))]))
  refine own_st (fun t k => XS.iconst X0.here hx rfl (hb hby d1_9) k) ?_
  show own_Fin p e below _ (s₁.setTop (mkF m 10 #[.val (.int (1 : Int32))] [(.int (1 : Int32)), (.int (1 : Int32))]))
  refine own_st (fun t k => XS.icmpNo X0.here hx rfl (hb hby d1_10) rfl (by decide) k) ?_
  show own_Fin p e below _ (s₁.setTop (mkF m 13 #[.val (.int (1 : Int32))] []))
  obtain ⟨T1, X1, e1, st1⟩ := getS2 X0 hx hZ hown (host := "") (Or.inl (hw _ (List.mem_of_getElem? (i := 37) rfl))) Via.refl e0 S_READ (g := (mkF m 13 #[.val (.int (1 : Int32))] [])) rfl (hb hby d1_13)
  refine own_st st1 ?_
  show own_Fin p e below _ (T1.setTop (mkF m 16 #[.val (.int (1 : Int32))] [(.ref w_READ)]))
  obtain ⟨fs, hr, hrun, hended, hW, hsame⟩ := X1.leave (v := some (.ref w_READ)) (fun h => by rw [Bd.returns] at h; cases h)
  exact ⟨_, _, retOut X1 hx (t := (.object "com/example/uni_lock/unilock/cli/Command")) Bd.returns rfl (Or.inr (Or.inr (Or.inr (Or.inr ⟨rfl, rfl, rfl⟩)))) (hb hby d1_16) hr, hrun, hended, _, _, rfl, ⟨rfl, N0, e1⟩, ⟨_, rfl⟩, hW, hsame.mono (by decide) (by decide)⟩
theorem d2_7 : decode prog_1_method_7_code 7 = .ok (.aload_n 0, 1) := by decide +kernel
theorem d2_8 : decode prog_1_method_7_code 8 = .ok (.getstatic 16, 3) := by decide +kernel
theorem d2_11 : decode prog_1_method_7_code 11 = .ok (.if_acmp .ne 7, 3) := by decide +kernel
theorem d2_18 : decode prog_1_method_7_code 18 = .ok (.iconst 0, 1) := by decide +kernel
set_option maxRecDepth 65536 in
set_option maxHeartbeats 40000000 in
theorem rm2_w_READ (l : Launch) (Z : State) (a0 : Array Value) (hw : ∀ d ∈ tables_1, d.before a0 Z = true) (ws : List Jvm.Cond) (w_PATH w_STATUS w_COMMIT w_RANGE w_WRITE w_READ : Addr) (h0 : Heap) (n0 : Nat) (PN : own_Pins Z h0 w_PATH w_STATUS w_COMMIT w_RANGE w_WRITE w_READ) :
    MetFree l (⟨"com/example/uni_lock/unilock/cli/Command", "takesShared", "()Z"⟩ : MethodName) (head1 (Jvm.Cond.code (⟨"com/example/uni_lock/unilock/cli/Command", "takesShared", "()Z"⟩ : MethodName) prog_1_method_7_code 1 (some .boolean) :: ws) ({ frames := 0, cells := 0, slots := 0, locals := 0 } : Room)) (fun a U => a = #[(.ref w_READ)] ∧ Z.Warmed39 U.vm ∧ U.heap = h0) (fun _ _ _ _ _ => True) (fun _ U o U' => ∃ v L, o = .returned v ∧ own_Q h0 n0 (some (.int (0 : Int32))) v U'.heap L ∧ FrameEnd U o U' L ({ frames := 0, cells := 0, slots := 0, locals := 0 } : Room).cells ({ frames := 0, cells := 0, slots := 0, locals := 0 } : Room).slots) := by
  obtain ⟨S_PATH, E_PATH, S_STATUS, E_STATUS, S_COMMIT, E_COMMIT, S_RANGE, E_RANGE, S_WRITE, E_WRITE, S_READ, E_READ, F_PATH_ordinal, F_STATUS_ordinal, F_COMMIT_ordinal, F_RANGE_ordinal, F_WRITE_ordinal, F_READ_ordinal⟩ := PN
  refine MetFree.of_bodySF (plainFor_of_name pn_com_example_uni_lock_unilock_cli_Command) hisR ?_
  intro p e s m args below meth c s₁ Bd hml0 hP hK
  obtain ⟨rfl, hZ, hh⟩ := hP
  have hx := Bd.exec
  have hby := Bd.bytes
  have hml : c.maxLocals = 1 := hml0
  have hown : s.vm.findClass "com/example/uni_lock/unilock/cli/Command" = some m.cls := findClass_of_methodNamed Bd.named
  have X0 : Stand p l e ({ frames := 0, cells := 0, slots := 0, locals := 0 } : Room) s m #[(.ref w_READ)] below meth c s₁ [] 0 0 := Stand.of_body Bd
  have e0 : s₁.heap = h0 := by rw [← hh, Bd.state]; rfl
  have N0 := Fr.nil n0
  refine (?_ : own_Fin p e below _ _)
  refine own_st (fun t k => castTop (ef_2_R m w_READ) k) ?_
  show own_Fin p e below _ (s₁.setTop (mkF m 0 #[.val (.ref w_READ)] []))
  refine own_st (fun t k => XS.aloadN X0.here hx rfl (hb hby d2_0) rfl rfl k) ?_
  show own_Fin p e below _ (s₁.setTop (mkF m 1 #[.val (.ref w_READ)] [(.ref w_READ)]))
  obtain ⟨T1, X1, e1, st1⟩ := getS2 X0 hx hZ hown (host := "") (Or.inl (hw _ (List.mem_of_getElem? (i := 13) rfl))) Via.refl e0 S_PATH (g := (mkF m 1 #[.val (.ref w_READ)] [(.ref w_READ)])) rfl (hb hby d2_1)
  refine own_st st1 ?_
  show own_Fin p e below _ (T1.setTop (mkF m 4 #[.val (.ref w_READ)] [(.ref w_PATH), (.ref w_READ)]))
  refine own_st (fun t k => Jvm.RoadKit.acmp (g := (mkF m 4 #[.val (.ref w_READ)] [(.ref w_PATH), (.ref w_READ)])) X1 hx rfl rfl rfl (pc0 := 4) (pc' := 7) (same := false) rfl (hb hby d2_4) rfl (decide_eq_false fun q => (Fld.ne F_READ_ordinal F_PATH_ordinal (by simp)) (Value.ref.inj q)) (by decide) (by decide) k) ?_
  show own_Fin p e below _ (T1.setTop (mkF m 7 #[.val (.ref w_READ)] []))
  refine own_st (fun t k => XS.aloadN X1.here hx rfl (hb hby d2_7) rfl rfl k) ?_
  show own_Fin p e below _ (T1.setTop (mkF m 8 #[.val (.ref w_READ)] [(.ref w_READ)]))
  obtain ⟨T2, X2, e2, st2⟩ := getS2 X1 hx hZ hown (host := "") (Or.inl (hw _ (List.mem_of_getElem? (i := 28) rfl))) Via.refl e1 S_RANGE (g := (mkF m 8 #[.val (.ref w_READ)] [(.ref w_READ)])) rfl (hb hby d2_8)
  refine own_st st2 ?_
  show own_Fin p e below _ (T2.setTop (mkF m 11 #[.val (.ref w_READ)] [(.ref w_RANGE), (.ref w_READ)]))
  refine own_st (fun t k => Jvm.RoadKit.acmp (g := (mkF m 11 #[.val (.ref w_READ)] [(.ref w_RANGE), (.ref w_READ)])) X2 hx rfl rfl rfl (pc0 := 11) (pc' := 18) (same := false) rfl (hb hby d2_11) rfl (decide_eq_false fun q => (Fld.ne F_READ_ordinal F_RANGE_ordinal (by simp)) (Value.ref.inj q)) (by decide) (by decide) k) ?_
  show own_Fin p e below _ (T2.setTop (mkF m 18 #[.val (.ref w_READ)] []))
  refine own_st (fun t k => XS.iconst X2.here hx rfl (hb hby d2_18) k) ?_
  show own_Fin p e below _ (T2.setTop (mkF m 19 #[.val (.ref w_READ)] [(.int (0 : Int32))]))
  obtain ⟨fs, hr, hrun, hended, hW, hsame⟩ := X2.leave (v := some (.int (0 : Int32))) (fun h => by rw [Bd.returns] at h; cases h)
  exact ⟨_, _, retN X2 hx (t := .boolean) Bd.returns (by simp) (hb hby d2_19) hr, hrun, hended, _, _, rfl, ⟨rfl, N0, e2⟩, ⟨_, rfl⟩, hW, hsame.mono (by decide) (by decide)⟩
theorem d3_11 : decode prog_1_method_8_code 11 = .ok (.iconst 0, 1) := by decide +kernel
set_option maxRecDepth 65536 in
set_option maxHeartbeats 40000000 in
theorem rm3_w_READ (l : Launch) (Z : State) (a0 : Array Value) (hw : ∀ d ∈ tables_1, d.before a0 Z = true) (ws : List Jvm.Cond) (w_PATH w_STATUS w_COMMIT w_RANGE w_WRITE w_READ : Addr) (h0 : Heap) (n0 : Nat) (PN : own_Pins Z h0 w_PATH w_STATUS w_COMMIT w_RANGE w_WRITE w_READ) :
    MetFree l (⟨"com/example/uni_lock/unilock/cli/Command", "takesDelete", "()Z"⟩ : MethodName) (head1 (Jvm.Cond.code (⟨"com/example/uni_lock/unilock/cli/Command", "takesDelete", "()Z"⟩ : MethodName) prog_1_method_8_code 1 (some .boolean) :: ws) ({ frames := 0, cells := 0, slots := 0, locals := 0 } : Room)) (fun a U => a = #[(.ref w_READ)] ∧ Z.Warmed39 U.vm ∧ U.heap = h0) (fun _ _ _ _ _ => True) (fun _ U o U' => ∃ v L, o = .returned v ∧ own_Q h0 n0 (some (.int (0 : Int32))) v U'.heap L ∧ FrameEnd U o U' L ({ frames := 0, cells := 0, slots := 0, locals := 0 } : Room).cells ({ frames := 0, cells := 0, slots := 0, locals := 0 } : Room).slots) := by
  obtain ⟨S_PATH, E_PATH, S_STATUS, E_STATUS, S_COMMIT, E_COMMIT, S_RANGE, E_RANGE, S_WRITE, E_WRITE, S_READ, E_READ, F_PATH_ordinal, F_STATUS_ordinal, F_COMMIT_ordinal, F_RANGE_ordinal, F_WRITE_ordinal, F_READ_ordinal⟩ := PN
  refine MetFree.of_bodySF (plainFor_of_name pn_com_example_uni_lock_unilock_cli_Command) hisR ?_
  intro p e s m args below meth c s₁ Bd hml0 hP hK
  obtain ⟨rfl, hZ, hh⟩ := hP
  have hx := Bd.exec
  have hby := Bd.bytes
  have hml : c.maxLocals = 1 := hml0
  have hown : s.vm.findClass "com/example/uni_lock/unilock/cli/Command" = some m.cls := findClass_of_methodNamed Bd.named
  have X0 : Stand p l e ({ frames := 0, cells := 0, slots := 0, locals := 0 } : Room) s m #[(.ref w_READ)] below meth c s₁ [] 0 0 := Stand.of_body Bd
  have e0 : s₁.heap = h0 := by rw [← hh, Bd.state]; rfl
  have N0 := Fr.nil n0
  refine (?_ : own_Fin p e below _ _)
  refine own_st (fun t k => castTop (ef_3_R m w_READ) k) ?_
  show own_Fin p e below _ (s₁.setTop (mkF m 0 #[.val (.ref w_READ)] []))
  refine own_st (fun t k => XS.aloadN X0.here hx rfl (hb hby d3_0) rfl rfl k) ?_
  show own_Fin p e below _ (s₁.setTop (mkF m 1 #[.val (.ref w_READ)] [(.ref w_READ)]))
  obtain ⟨T1, X1, e1, st1⟩ := getS2 X0 hx hZ hown (host := "") (Or.inl (hw _ (List.mem_of_getElem? (i := 13) rfl))) Via.refl e0 S_PATH (g := (mkF m 1 #[.val (.ref w_READ)] [(.ref w_READ)])) rfl (hb hby d3_1)
  refine own_st st1 ?_
  show own_Fin p e below _ (T1.setTop (mkF m 4 #[.val (.ref w_READ)] [(.ref w_PATH), (.ref w_READ)]))
  refine own_st (fun t k => Jvm.RoadKit.acmp (g := (mkF m 4 #[.val (.ref w_READ)] [(.ref w_PATH), (.ref w_READ)])) X1 hx rfl rfl rfl (pc0 := 4) (pc' := 11) (same := false) rfl (hb hby d3_4) rfl (decide_eq_false fun q => (Fld.ne F_READ_ordinal F_PATH_ordinal (by simp)) (Value.ref.inj q)) (by decide) (by decide) k) ?_
  show own_Fin p e below _ (T1.setTop (mkF m 11 #[.val (.ref w_READ)] []))
  refine own_st (fun t k => XS.iconst X1.here hx rfl (hb hby d3_11) k) ?_
  show own_Fin p e below _ (T1.setTop (mkF m 12 #[.val (.ref w_READ)] [(.int (0 : Int32))]))
  obtain ⟨fs, hr, hrun, hended, hW, hsame⟩ := X1.leave (v := some (.int (0 : Int32))) (fun h => by rw [Bd.returns] at h; cases h)
  exact ⟨_, _, retN X1 hx (t := .boolean) Bd.returns (by simp) (hb hby d3_12) hr, hrun, hended, _, _, rfl, ⟨rfl, N0, e1⟩, ⟨_, rfl⟩, hW, hsame.mono (by decide) (by decide)⟩
theorem d5_0 : decode prog_1_method_9_code 0 = .ok (.aload_n 0, 1) := by decide +kernel
theorem d5_1 : decode prog_1_method_9_code 1 = .ok (.getstatic 16, 3) := by decide +kernel
theorem d5_4 : decode prog_1_method_9_code 4 = .ok (.if_acmp .ne 7, 3) := by decide +kernel
theorem d5_11 : decode prog_1_method_9_code 11 = .ok (.iconst 0, 1) := by decide +kernel
theorem d5_12 : decode prog_1_method_9_code 12 = .ok (.ireturn, 1) := by decide +kernel
theorem ef_5_R (m : MethodId) (x0 : Addr) : entryFrame m #[(.ref x0)] 1 = mkF m 0 #[.val (.ref x0)] [] := by first | (simp [entryFrame, mkF, argsToLocals, Value.category]; done) | rfl
set_option maxRecDepth 65536 in
set_option maxHeartbeats 40000000 in
theorem rm5_w_READ (l : Launch) (Z : State) (a0 : Array Value) (hw : ∀ d ∈ tables_1, d.before a0 Z = true) (ws : List Jvm.Cond) (w_PATH w_STATUS w_COMMIT w_RANGE w_WRITE w_READ : Addr) (h0 : Heap) (n0 : Nat) (PN : own_Pins Z h0 w_PATH w_STATUS w_COMMIT w_RANGE w_WRITE w_READ) :
    MetFree l (⟨"com/example/uni_lock/unilock/cli/Command", "takesRange", "()Z"⟩ : MethodName) (head1 (Jvm.Cond.code (⟨"com/example/uni_lock/unilock/cli/Command", "takesRange", "()Z"⟩ : MethodName) prog_1_method_9_code 1 (some .boolean) :: ws) ({ frames := 0, cells := 0, slots := 0, locals := 0 } : Room)) (fun a U => a = #[(.ref w_READ)] ∧ Z.Warmed39 U.vm ∧ U.heap = h0) (fun _ _ _ _ _ => True) (fun _ U o U' => ∃ v L, o = .returned v ∧ own_Q h0 n0 (some (.int (0 : Int32))) v U'.heap L ∧ FrameEnd U o U' L ({ frames := 0, cells := 0, slots := 0, locals := 0 } : Room).cells ({ frames := 0, cells := 0, slots := 0, locals := 0 } : Room).slots) := by
  obtain ⟨S_PATH, E_PATH, S_STATUS, E_STATUS, S_COMMIT, E_COMMIT, S_RANGE, E_RANGE, S_WRITE, E_WRITE, S_READ, E_READ, F_PATH_ordinal, F_STATUS_ordinal, F_COMMIT_ordinal, F_RANGE_ordinal, F_WRITE_ordinal, F_READ_ordinal⟩ := PN
  refine MetFree.of_bodySF (plainFor_of_name pn_com_example_uni_lock_unilock_cli_Command) hisR ?_
  intro p e s m args below meth c s₁ Bd hml0 hP hK
  obtain ⟨rfl, hZ, hh⟩ := hP
  have hx := Bd.exec
  have hby := Bd.bytes
  have hml : c.maxLocals = 1 := hml0
  have hown : s.vm.findClass "com/example/uni_lock/unilock/cli/Command" = some m.cls := findClass_of_methodNamed Bd.named
  have X0 : Stand p l e ({ frames := 0, cells := 0, slots := 0, locals := 0 } : Room) s m #[(.ref w_READ)] below meth c s₁ [] 0 0 := Stand.of_body Bd
  have e0 : s₁.heap = h0 := by rw [← hh, Bd.state]; rfl
  have N0 := Fr.nil n0
  refine (?_ : own_Fin p e below _ _)
  refine own_st (fun t k => castTop (ef_5_R m w_READ) k) ?_
  show own_Fin p e below _ (s₁.setTop (mkF m 0 #[.val (.ref w_READ)] []))
  refine own_st (fun t k => XS.aloadN X0.here hx rfl (hb hby d5_0) rfl rfl k) ?_
  show own_Fin p e below _ (s₁.setTop (mkF m 1 #[.val (.ref w_READ)] [(.ref w_READ)]))
  obtain ⟨T1, X1, e1, st1⟩ := getS2 X0 hx hZ hown (host := "") (Or.inl (hw _ (List.mem_of_getElem? (i := 28) rfl))) Via.refl e0 S_RANGE (g := (mkF m 1 #[.val (.ref w_READ)] [(.ref w_READ)])) rfl (hb hby d5_1)
  refine own_st st1 ?_
  show own_Fin p e below _ (T1.setTop (mkF m 4 #[.val (.ref w_READ)] [(.ref w_RANGE), (.ref w_READ)]))
  refine own_st (fun t k => Jvm.RoadKit.acmp (g := (mkF m 4 #[.val (.ref w_READ)] [(.ref w_RANGE), (.ref w_READ)])) X1 hx rfl rfl rfl (pc0 := 4) (pc' := 11) (same := false) rfl (hb hby d5_4) rfl (decide_eq_false fun q => (Fld.ne F_READ_ordinal F_RANGE_ordinal (by simp)) (Value.ref.inj q)) (by decide) (by decide) k) ?_
  show own_Fin p e below _ (T1.setTop (mkF m 11 #[.val (.ref w_READ)] []))
  refine own_st (fun t k => XS.iconst X1.here hx rfl (hb hby d5_11) k) ?_
  show own_Fin p e below _ (T1.setTop (mkF m 12 #[.val (.ref w_READ)] [(.int (0 : Int32))]))
  obtain ⟨fs, hr, hrun, hended, hW, hsame⟩ := X1.leave (v := some (.int (0 : Int32))) (fun h => by rw [Bd.returns] at h; cases h)
  exact ⟨_, _, retN X1 hx (t := .boolean) Bd.returns (by simp) (hb hby d5_12) hr, hrun, hended, _, _, rfl, ⟨rfl, N0, e1⟩, ⟨_, rfl⟩, hW, hsame.mono (by decide) (by decide)⟩
set_option maxRecDepth 65536 in
set_option maxHeartbeats 40000000 in
theorem rm0_c1 (l : Launch) (Z : State) (a0 : Array Value) (hw : ∀ d ∈ tables_1, d.before a0 Z = true) (ws : List Jvm.Cond) (w_PATH w_STATUS w_COMMIT w_RANGE w_WRITE w_READ : Addr) (p0 : Int32) (h0 : Heap) (n0 : Nat) (PN : own_Pins Z h0 w_PATH w_STATUS w_COMMIT w_RANGE w_WRITE w_READ) (q0 : ((p0 &&& (2147483647 : Int32)) % (6 : Int32)) = (1 : Int32)) :
    MetFree l x (head1 (Jvm.Cond.code x code maxLocals ret :: ws) room_1) (fun a U => a = #[(.int p0)] ∧ Z.Warmed39 U.vm ∧ U.heap = h0) (fun _ _ _ _ _ => True) (fun _ U o U' => ∃ v L, o = .returned v ∧ own_Q h0 n0 (some (.int (1 : Int32))) v U'.heap L ∧ FrameEnd U o U' L room_1.cells room_1.slots) := by
  obtain ⟨S_PATH, E_PATH, S_STATUS, E_STATUS, S_COMMIT, E_COMMIT, S_RANGE, E_RANGE, S_WRITE, E_WRITE, S_READ, E_READ, F_PATH_ordinal, F_STATUS_ordinal, F_COMMIT_ordinal, F_RANGE_ordinal, F_WRITE_ordinal, F_READ_ordinal⟩ := PN
  refine MetFree.of_bodySF (plainFor_of_name pn_com_example_uni_lock_unilock_cli_CommandTakesSharedPinLaw) hisR ?_
  intro p e s m args below meth c s₁ Bd hml0 hP hK
  obtain ⟨rfl, hZ, hh⟩ := hP
  have hx := Bd.exec
  have hby := Bd.bytes
  have hml : c.maxLocals = 7 := hml0
  have hown : s.vm.findClass "com/example/uni_lock/unilock/cli/CommandTakesSharedPinLaw" = some m.cls := findClass_of_methodNamed Bd.named
  have X0 : Stand p l e room_1 s m #[(.int p0)] below meth c s₁ [] 0 0 := Stand.of_body Bd
  have e0 : s₁.heap = h0 := by rw [← hh, Bd.state]; rfl
  have N0 := Fr.nil n0
  refine (?_ : own_Fin p e below _ _)
  refine own_st (fun t k => castTop (ef_0_I m p0) k) ?_
  show own_Fin p e below _ (s₁.setTop (mkF m 0 #[.val (.int p0), .unset, .unset, .unset, .unset, .unset, .unset] []))
  refine own_st (fun t k => XS.iloadN X0.here hx rfl (hb hby at_0) rfl k) ?_
  show own_Fin p e below _ (s₁.setTop (mkF m 1 #[.val (.int p0), .unset, .unset, .unset, .unset, .unset, .unset] [(.int p0)]))
  refine own_st (fun t k => X0.ldcI hx hown (mvT hZ (hw _ (List.mem_of_getElem? (i := 0) rfl))) rfl (hb hby at_1) k) ?_
  show own_Fin p e below _ (s₁.setTop (mkF m 3 #[.val (.int p0), .unset, .unset, .unset, .unset, .unset, .unset] [(.int (2147483647 : Int32)), (.int p0)]))
  refine own_st (fun t k => XS.iand X0.here hx rfl (hb hby at_3) rfl k) ?_
  show own_Fin p e below _ (s₁.setTop (mkF m 4 #[.val (.int p0), .unset, .unset, .unset, .unset, .unset, .unset] [(.int (p0 &&& (2147483647 : Int32)))]))
  refine own_st (fun t k => XS.bipush X0.here hx rfl (hb hby at_4) k) ?_
  show own_Fin p e below _ (s₁.setTop (mkF m 6 #[.val (.int p0), .unset, .unset, .unset, .unset, .unset, .unset] [(.int (6 : Int32)), (.int (p0 &&& (2147483647 : Int32)))]))
  refine own_st (fun t k => iremM X0 hx rfl (hb hby at_6) rfl (by decide) k) ?_
  show own_Fin p e below _ (s₁.setTop (mkF m 7 #[.val (.int p0), .unset, .unset, .unset, .unset, .unset, .unset] [(.int ((p0 &&& (2147483647 : Int32)) % (6 : Int32)))]))
  rw [q0]
  show own_Fin p e below _ (s₁.setTop (mkF m 7 #[.val (.int p0), .unset, .unset, .unset, .unset, .unset, .unset] [(.int (1 : Int32))]))
  refine own_st (fun t k => XS.istoreN X0.here hx rfl (hb hby at_7) rfl (l' := #[.val (.int p0), .val (.int (1 : Int32)), .unset, .unset, .unset, .unset, .unset]) rfl k) ?_
  show own_Fin p e below _ (s₁.setTop (mkF m 8 #[.val (.int p0), .val (.int (1 : Int32)), .unset, .unset, .unset, .unset, .unset] []))
  refine own_st (fun t k => XS.iloadN X0.here hx rfl (hb hby at_8) rfl k) ?_
  show own_Fin p e below _ (s₁.setTop (mkF m 9 #[.val (.int p0), .val (.int (1 : Int32)), .unset, .unset, .unset, .unset, .unset] [(.int (1 : Int32))]))
  obtain ⟨_, _, ⟨T1, L1, k1, n1⟩, -, X1, ⟨Lc1, hQ1, l1, y1, z1⟩, st1⟩ := Jvm.LawKit.callS X0 hx (y := (⟨"com/example/uni_lock/unilock/cli/CommandTakesSharedPinLaw", "pick", "(I)Lcom/example/uni_lock/unilock/cli/Command;"⟩ : MethodName)) hown (mvT hZ (hw _ (List.mem_of_getElem? (i := 1) rfl))) (mvT hZ (hw _ (List.mem_of_getElem? (i := 2) rfl))) (mvT hZ (hw _ (List.mem_of_getElem? (i := 3) rfl))) (mvT hZ (hw _ (List.mem_of_getElem? (i := 4) rfl))) (by decide) (backOf (W := 0) (rm1_1 l Z a0 hw [] w_PATH w_STATUS w_COMMIT w_RANGE w_WRITE w_READ h0 n0 (by exact ⟨S_PATH, E_PATH, S_STATUS, E_STATUS, S_COMMIT, E_COMMIT, S_RANGE, E_RANGE, S_WRITE, E_WRITE, S_READ, E_READ, F_PATH_ordinal, F_STATUS_ordinal, F_COMMIT_ordinal, F_RANGE_ordinal, F_WRITE_ordinal, F_READ_ordinal⟩)) hZ (hw _ (List.mem_of_getElem? (i := 4) rfl)) (hw _ (List.mem_of_getElem? (i := 3) rfl)) (by decide) (by decide)) (g := (mkF m 9 #[.val (.int p0), .val (.int (1 : Int32)), .unset, .unset, .unset, .unset, .unset] [(.int (1 : Int32))])) rfl (by rw [hml]; rfl) (argsL := [(.int (1 : Int32))]) (rest := []) (lenOf pd__I_Lcom_example_uni_lock_unilock_cli_Command_ rfl) rfl (by show 2 * 0 + _ ≤ _; exact Nat.le_of_eq rfl) (hb hby at_9) (fun _ _ => ⟨rfl, e0, (by decide : 0 + 0 ≤ _), (by decide : 0 + 0 ≤ _)⟩)
  dsimp only [Pt.U, Pt.locs, Pt.cells, Pt.slots] at X1 l1 y1 z1 st1 hQ1
  subst l1 y1 z1
  obtain ⟨rfl, N1q, e1⟩ := hQ1
  have N1 := Fr.app N0 N1q
  refine own_st st1 ?_
  show own_Fin p e below _ (T1.setTop (mkF m 12 #[.val (.int p0), .val (.int (1 : Int32)), .unset, .unset, .unset, .unset, .unset] [(.ref w_READ)]))
  refine own_st (fun t k => XS.astoreN X1.here hx rfl (hb hby at_12) rfl rfl (l' := #[.val (.int p0), .val (.int (1 : Int32)), .val (.ref w_READ), .unset, .unset, .unset, .unset]) rfl k) ?_
  show own_Fin p e below _ (T1.setTop (mkF m 13 #[.val (.int p0), .val (.int (1 : Int32)), .val (.ref w_READ), .unset, .unset, .unset, .unset] []))
  refine own_st (fun t k => XS.aloadN X1.here hx rfl (hb hby at_13) rfl rfl k) ?_
  show own_Fin p e below _ (T1.setTop (mkF m 14 #[.val (.int p0), .val (.int (1 : Int32)), .val (.ref w_READ), .unset, .unset, .unset, .unset] [(.ref w_READ)]))
  obtain ⟨cq2, kq2, q2a, q2b, q2c⟩ := isOf hZ e1 E_READ
  obtain ⟨_, _, ⟨T2, L2, k2, n2⟩, -, X2, ⟨Lc2, hQ2, l2, y2, z2⟩, st2⟩ := X1.virtualBack hx (y := (⟨"com/example/uni_lock/unilock/cli/Command", "takesShared", "()Z"⟩ : MethodName)) (z := (⟨"com/example/uni_lock/unilock/cli/Command", "takesShared", "()Z"⟩ : MethodName)) hown (mvT hZ (hw _ (List.mem_of_getElem? (i := 8) rfl))) (mvT hZ (hw _ (List.mem_of_getElem? (i := 9) rfl))) (notFace_of_selects (args := #[]) (mvT hZ (hw _ (List.mem_of_getElem? (i := 11) rfl)))) (mvT hZ (hw _ (List.mem_of_getElem? (i := 11) rfl))) (mvT hZ (hw _ (List.mem_of_getElem? (i := 10) rfl))) (by decide) (backOf (W := 0) (rm2_w_READ l Z a0 hw [] w_PATH w_STATUS w_COMMIT w_RANGE w_WRITE w_READ h0 n0 (by exact ⟨S_PATH, E_PATH, S_STATUS, E_STATUS, S_COMMIT, E_COMMIT, S_RANGE, E_RANGE, S_WRITE, E_WRITE, S_READ, E_READ, F_PATH_ordinal, F_STATUS_ordinal, F_COMMIT_ordinal, F_RANGE_ordinal, F_WRITE_ordinal, F_READ_ordinal⟩)) hZ (hw _ (List.mem_of_getElem? (i := 12) rfl)) (hw _ (List.mem_of_getElem? (i := 6) rfl)) (by decide) (by decide)) q2a q2c (g := (mkF m 14 #[.val (.int p0), .val (.int (1 : Int32)), .val (.ref w_READ), .unset, .unset, .unset, .unset] [(.ref w_READ)])) rfl (by rw [hml]; rfl) (Steps.refl _) (argsL := []) (rest := []) (lenOf pd___Z rfl) rfl (by show 2 * 0 + _ ≤ _; exact Nat.le_of_eq rfl) (hb hby at_14) (fun _ _ => ⟨rfl, e1, (by decide : 0 + 0 ≤ _), (by decide : 0 + 0 ≤ _)⟩)
  dsimp only [Pt.U, Pt.locs, Pt.cells, Pt.slots] at X2 l2 y2 z2 st2 hQ2
  subst l2 y2 z2
  obtain ⟨rfl, N2q, e2⟩ := hQ2
  have N2 := Fr.app N1 N2q
  refine own_tr st2 ?_
  show own_Fin p e below _ (T2.setTop (mkF m 17 #[.val (.int p0), .val (.int (1 : Int32)), .val (.ref w_READ), .unset, .unset, .unset, .unset] [(.int (0 : Int32))]))
  refine own_st (fun t k => XS.istoreN X2.here hx rfl (hb hby at_17) rfl (l' := #[.val (.int p0), .val (.int (1 : Int32)), .val (.ref w_READ), .val (.int (0 : Int32)), .unset, .unset, .unset]) rfl k) ?_
  show own_Fin p e below _ (T2.setTop (mkF m 18 #[.val (.int p0), .val (.int (1 : Int32)), .val (.ref w_READ), .val (.int (0 : Int32)), .unset, .unset, .unset] []))
  refine own_st (fun t k => XS.iloadN X2.here hx rfl (hb hby at_18) rfl k) ?_
  show own_Fin p e below _ (T2.setTop (mkF m 19 #[.val (.int p0), .val (.int (1 : Int32)), .val (.ref w_READ), .val (.int (0 : Int32)), .unset, .unset, .unset] [(.int (1 : Int32))]))
  refine own_st (fun t k => XS.ifNo X2.here hx rfl (hb hby at_19) rfl (by decide) k) ?_
  show own_Fin p e below _ (T2.setTop (mkF m 22 #[.val (.int p0), .val (.int (1 : Int32)), .val (.ref w_READ), .val (.int (0 : Int32)), .unset, .unset, .unset] []))
  refine own_st (fun t k => XS.iloadN X2.here hx rfl (hb hby at_22) rfl k) ?_
  show own_Fin p e below _ (T2.setTop (mkF m 23 #[.val (.int p0), .val (.int (1 : Int32)), .val (.ref w_READ), .val (.int (0 : Int32)), .unset, .unset, .unset] [(.int (1 : Int32))]))
  refine own_st (fun t k => XS.iconst X2.here hx rfl (hb hby at_23) k) ?_
  show own_Fin p e below _ (T2.setTop (mkF m 24 #[.val (.int p0), .val (.int (1 : Int32)), .val (.ref w_READ), .val (.int (0 : Int32)), .unset, .unset, .unset] [(.int (4 : Int32)), (.int (1 : Int32))]))
  refine own_st (fun t k => XS.icmpYes X2.here hx rfl (pc0 := 24) (pc' := 31) rfl (hb hby at_24) rfl (by decide) (by decide) (by decide) k) ?_
  show own_Fin p e below _ (T2.setTop (mkF m 31 #[.val (.int p0), .val (.int (1 : Int32)), .val (.ref w_READ), .val (.int (0 : Int32)), .unset, .unset, .unset] []))
  refine own_st (fun t k => XS.iconst X2.here hx rfl (hb hby at_31) k) ?_
  show own_Fin p e below _ (T2.setTop (mkF m 32 #[.val (.int p0), .val (.int (1 : Int32)), .val (.ref w_READ), .val (.int (0 : Int32)), .unset, .unset, .unset] [(.int (0 : Int32))]))
  refine own_st (fun t k => XS.istore X2.here hx rfl (hb hby at_32) rfl (l' := #[.val (.int p0), .val (.int (1 : Int32)), .val (.ref w_READ), .val (.int (0 : Int32)), .val (.int (0 : Int32)), .unset, .unset]) rfl k) ?_
  show own_Fin p e below _ (T2.setTop (mkF m 34 #[.val (.int p0), .val (.int (1 : Int32)), .val (.ref w_READ), .val (.int (0 : Int32)), .val (.int (0 : Int32)), .unset, .unset] []))
  refine own_st (fun t k => XS.aloadN X2.here hx rfl (hb hby at_34) rfl rfl k) ?_
  show own_Fin p e below _ (T2.setTop (mkF m 35 #[.val (.int p0), .val (.int (1 : Int32)), .val (.ref w_READ), .val (.int (0 : Int32)), .val (.int (0 : Int32)), .unset, .unset] [(.ref w_READ)]))
  obtain ⟨cq3, kq3, q3a, q3b, q3c⟩ := isOf hZ e2 E_READ
  obtain ⟨_, _, ⟨T3, L3, k3, n3⟩, -, X3, ⟨Lc3, hQ3, l3, y3, z3⟩, st3⟩ := X2.virtualBack hx (y := (⟨"com/example/uni_lock/unilock/cli/Command", "takesDelete", "()Z"⟩ : MethodName)) (z := (⟨"com/example/uni_lock/unilock/cli/Command", "takesDelete", "()Z"⟩ : MethodName)) hown (mvT hZ (hw _ (List.mem_of_getElem? (i := 14) rfl))) (mvT hZ (hw _ (List.mem_of_getElem? (i := 15) rfl))) (notFace_of_selects (args := #[]) (mvT hZ (hw _ (List.mem_of_getElem? (i := 17) rfl)))) (mvT hZ (hw _ (List.mem_of_getElem? (i := 17) rfl))) (mvT hZ (hw _ (List.mem_of_getElem? (i := 16) rfl))) (by decide) (backOf (W := 0) (rm3_w_READ l Z a0 hw [] w_PATH w_STATUS w_COMMIT w_RANGE w_WRITE w_READ h0 n0 (by exact ⟨S_PATH, E_PATH, S_STATUS, E_STATUS, S_COMMIT, E_COMMIT, S_RANGE, E_RANGE, S_WRITE, E_WRITE, S_READ, E_READ, F_PATH_ordinal, F_STATUS_ordinal, F_COMMIT_ordinal, F_RANGE_ordinal, F_WRITE_ordinal, F_READ_ordinal⟩)) hZ (hw _ (List.mem_of_getElem? (i := 18) rfl)) (hw _ (List.mem_of_getElem? (i := 6) rfl)) (by decide) (by decide)) q3a q3c (g := (mkF m 35 #[.val (.int p0), .val (.int (1 : Int32)), .val (.ref w_READ), .val (.int (0 : Int32)), .val (.int (0 : Int32)), .unset, .unset] [(.ref w_READ)])) rfl (by rw [hml]; rfl) (Steps.refl _) (argsL := []) (rest := []) (lenOf pd___Z rfl) rfl (by show 2 * 0 + _ ≤ _; exact Nat.le_of_eq rfl) (hb hby at_35) (fun _ _ => ⟨rfl, e2, (by decide : 0 + 0 ≤ _), (by decide : 0 + 0 ≤ _)⟩)
  dsimp only [Pt.U, Pt.locs, Pt.cells, Pt.slots] at X3 l3 y3 z3 st3 hQ3
  subst l3 y3 z3
  obtain ⟨rfl, N3q, e3⟩ := hQ3
  have N3 := Fr.app N2 N3q
  refine own_tr st3 ?_
  show own_Fin p e below _ (T3.setTop (mkF m 38 #[.val (.int p0), .val (.int (1 : Int32)), .val (.ref w_READ), .val (.int (0 : Int32)), .val (.int (0 : Int32)), .unset, .unset] [(.int (0 : Int32))]))
  refine own_st (fun t k => XS.ifNo X3.here hx rfl (hb hby at_38) rfl (by decide) k) ?_
  show own_Fin p e below _ (T3.setTop (mkF m 41 #[.val (.int p0), .val (.int (1 : Int32)), .val (.ref w_READ), .val (.int (0 : Int32)), .val (.int (0 : Int32)), .unset, .unset] []))
  refine own_st (fun t k => XS.aloadN X3.here hx rfl (hb hby at_41) rfl rfl k) ?_
  show own_Fin p e below _ (T3.setTop (mkF m 42 #[.val (.int p0), .val (.int (1 : Int32)), .val (.ref w_READ), .val (.int (0 : Int32)), .val (.int (0 : Int32)), .unset, .unset] [(.ref w_READ)]))
  obtain ⟨cq4, kq4, q4a, q4b, q4c⟩ := isOf hZ e3 E_READ
  obtain ⟨_, _, ⟨T4, L4, k4, n4⟩, -, X4, ⟨Lc4, hQ4, l4, y4, z4⟩, st4⟩ := X3.virtualBack hx (y := (⟨"com/example/uni_lock/unilock/cli/Command", "takesRange", "()Z"⟩ : MethodName)) (z := (⟨"com/example/uni_lock/unilock/cli/Command", "takesRange", "()Z"⟩ : MethodName)) hown (mvT hZ (hw _ (List.mem_of_getElem? (i := 30) rfl))) (mvT hZ (hw _ (List.mem_of_getElem? (i := 31) rfl))) (notFace_of_selects (args := #[]) (mvT hZ (hw _ (List.mem_of_getElem? (i := 33) rfl)))) (mvT hZ (hw _ (List.mem_of_getElem? (i := 33) rfl))) (mvT hZ (hw _ (List.mem_of_getElem? (i := 32) rfl))) (by decide) (backOf (W := 0) (rm5_w_READ l Z a0 hw [] w_PATH w_STATUS w_COMMIT w_RANGE w_WRITE w_READ h0 n0 (by exact ⟨S_PATH, E_PATH, S_STATUS, E_STATUS, S_COMMIT, E_COMMIT, S_RANGE, E_RANGE, S_WRITE, E_WRITE, S_READ, E_READ, F_PATH_ordinal, F_STATUS_ordinal, F_COMMIT_ordinal, F_RANGE_ordinal, F_WRITE_ordinal, F_READ_ordinal⟩)) hZ (hw _ (List.mem_of_getElem? (i := 34) rfl)) (hw _ (List.mem_of_getElem? (i := 6) rfl)) (by decide) (by decide)) q4a q4c (g := (mkF m 42 #[.val (.int p0), .val (.int (1 : Int32)), .val (.ref w_READ), .val (.int (0 : Int32)), .val (.int (0 : Int32)), .unset, .unset] [(.ref w_READ)])) rfl (by rw [hml]; rfl) (Steps.refl _) (argsL := []) (rest := []) (lenOf pd___Z rfl) rfl (by show 2 * 0 + _ ≤ _; exact Nat.le_of_eq rfl) (hb hby at_42) (fun _ _ => ⟨rfl, e3, (by decide : 0 + 0 ≤ _), (by decide : 0 + 0 ≤ _)⟩)
  dsimp only [Pt.U, Pt.locs, Pt.cells, Pt.slots] at X4 l4 y4 z4 st4 hQ4
  subst l4 y4 z4
  obtain ⟨rfl, N4q, e4⟩ := hQ4
  have N4 := Fr.app N3 N4q
  refine own_tr st4 ?_
  show own_Fin p e below _ (T4.setTop (mkF m 45 #[.val (.int p0), .val (.int (1 : Int32)), .val (.ref w_READ), .val (.int (0 : Int32)), .val (.int (0 : Int32)), .unset, .unset] [(.int (0 : Int32))]))
  refine own_st (fun t k => XS.ifYes X4.here hx rfl (pc0 := 45) (pc' := 52) rfl (hb hby at_45) rfl (by decide) (by decide) (by decide) k) ?_
  show own_Fin p e below _ (T4.setTop (mkF m 52 #[.val (.int p0), .val (.int (1 : Int32)), .val (.ref w_READ), .val (.int (0 : Int32)), .val (.int (0 : Int32)), .unset, .unset] []))
  refine own_st (fun t k => XS.iconst X4.here hx rfl (hb hby at_52) k) ?_
  show own_Fin p e below _ (T4.setTop (mkF m 53 #[.val (.int p0), .val (.int (1 : Int32)), .val (.ref w_READ), .val (.int (0 : Int32)), .val (.int (0 : Int32)), .unset, .unset] [(.int (0 : Int32))]))
  refine own_st (fun t k => XS.istore X4.here hx rfl (hb hby at_53) rfl (l' := #[.val (.int p0), .val (.int (1 : Int32)), .val (.ref w_READ), .val (.int (0 : Int32)), .val (.int (0 : Int32)), .val (.int (0 : Int32)), .unset]) rfl k) ?_
  show own_Fin p e below _ (T4.setTop (mkF m 55 #[.val (.int p0), .val (.int (1 : Int32)), .val (.ref w_READ), .val (.int (0 : Int32)), .val (.int (0 : Int32)), .val (.int (0 : Int32)), .unset] []))
  refine own_st (fun t k => XS.iloadN X4.here hx rfl (hb hby at_55) rfl k) ?_
  show own_Fin p e below _ (T4.setTop (mkF m 56 #[.val (.int p0), .val (.int (1 : Int32)), .val (.ref w_READ), .val (.int (0 : Int32)), .val (.int (0 : Int32)), .val (.int (0 : Int32)), .unset] [(.int (0 : Int32))]))
  refine own_st (fun t k => XS.ifYes X4.here hx rfl (pc0 := 56) (pc' := 66) rfl (hb hby at_56) rfl (by decide) (by decide) (by decide) k) ?_
  show own_Fin p e below _ (T4.setTop (mkF m 66 #[.val (.int p0), .val (.int (1 : Int32)), .val (.ref w_READ), .val (.int (0 : Int32)), .val (.int (0 : Int32)), .val (.int (0 : Int32)), .unset] []))
  refine own_st (fun t k => XS.iconst X4.here hx rfl (hb hby at_66) k) ?_
  show own_Fin p e below _ (T4.setTop (mkF m 67 #[.val (.int p0), .val (.int (1 : Int32)), .val (.ref w_READ), .val (.int (0 : Int32)), .val (.int (0 : Int32)), .val (.int (0 : Int32)), .unset] [(.int (1 : Int32))]))
  refine own_st (fun t k => XS.goto X4.here hx rfl (pc0 := 67) (pc' := 71) rfl (hb hby at_67) (by decide) (by decide) k) ?_
  show own_Fin p e below _ (T4.setTop (mkF m 71 #[.val (.int p0), .val (.int (1 : Int32)), .val (.ref w_READ), .val (.int (0 : Int32)), .val (.int (0 : Int32)), .val (.int (0 : Int32)), .unset] [(.int (1 : Int32))]))
  refine own_st (fun t k => XS.istore X4.here hx rfl (hb hby at_71) rfl (l' := #[.val (.int p0), .val (.int (1 : Int32)), .val (.ref w_READ), .val (.int (0 : Int32)), .val (.int (0 : Int32)), .val (.int (0 : Int32)), .val (.int (1 : Int32))]) rfl k) ?_
  show own_Fin p e below _ (T4.setTop (mkF m 73 #[.val (.int p0), .val (.int (1 : Int32)), .val (.ref w_READ), .val (.int (0 : Int32)), .val (.int (0 : Int32)), .val (.int (0 : Int32)), .val (.int (1 : Int32))] []))
  refine own_st (fun t k => XS.iloadN X4.here hx rfl (hb hby at_73) rfl k) ?_
  show own_Fin p e below _ (T4.setTop (mkF m 74 #[.val (.int p0), .val (.int (1 : Int32)), .val (.ref w_READ), .val (.int (0 : Int32)), .val (.int (0 : Int32)), .val (.int (0 : Int32)), .val (.int (1 : Int32))] [(.int (0 : Int32))]))
  refine own_st (fun t k => XS.iload X4.here hx rfl (hb hby at_74) rfl k) ?_
  show own_Fin p e below _ (T4.setTop (mkF m 76 #[.val (.int p0), .val (.int (1 : Int32)), .val (.ref w_READ), .val (.int (0 : Int32)), .val (.int (0 : Int32)), .val (.int (0 : Int32)), .val (.int (1 : Int32))] [(.int (0 : Int32)), (.int (0 : Int32))]))
  refine own_st (fun t k => XS.icmpNo X4.here hx rfl (hb hby at_76) rfl (by decide) k) ?_
  show own_Fin p e below _ (T4.setTop (mkF m 79 #[.val (.int p0), .val (.int (1 : Int32)), .val (.ref w_READ), .val (.int (0 : Int32)), .val (.int (0 : Int32)), .val (.int (0 : Int32)), .val (.int (1 : Int32))] []))
  refine own_st (fun t k => XS.iloadN X4.here hx rfl (hb hby at_79) rfl k) ?_
  show own_Fin p e below _ (T4.setTop (mkF m 80 #[.val (.int p0), .val (.int (1 : Int32)), .val (.ref w_READ), .val (.int (0 : Int32)), .val (.int (0 : Int32)), .val (.int (0 : Int32)), .val (.int (1 : Int32))] [(.int (0 : Int32))]))
  refine own_st (fun t k => XS.iload X4.here hx rfl (hb hby at_80) rfl k) ?_
  show own_Fin p e below _ (T4.setTop (mkF m 82 #[.val (.int p0), .val (.int (1 : Int32)), .val (.ref w_READ), .val (.int (0 : Int32)), .val (.int (0 : Int32)), .val (.int (0 : Int32)), .val (.int (1 : Int32))] [(.int (0 : Int32)), (.int (0 : Int32))]))
  refine own_st (fun t k => XS.icmpNo X4.here hx rfl (hb hby at_82) rfl (by decide) k) ?_
  show own_Fin p e below _ (T4.setTop (mkF m 85 #[.val (.int p0), .val (.int (1 : Int32)), .val (.ref w_READ), .val (.int (0 : Int32)), .val (.int (0 : Int32)), .val (.int (0 : Int32)), .val (.int (1 : Int32))] []))
  refine own_st (fun t k => XS.iload X4.here hx rfl (hb hby at_85) rfl k) ?_
  show own_Fin p e below _ (T4.setTop (mkF m 87 #[.val (.int p0), .val (.int (1 : Int32)), .val (.ref w_READ), .val (.int (0 : Int32)), .val (.int (0 : Int32)), .val (.int (0 : Int32)), .val (.int (1 : Int32))] [(.int (1 : Int32))]))
  refine own_st (fun t k => XS.ifNo X4.here hx rfl (hb hby at_87) rfl (by decide) k) ?_
  show own_Fin p e below _ (T4.setTop (mkF m 90 #[.val (.int p0), .val (.int (1 : Int32)), .val (.ref w_READ), .val (.int (0 : Int32)), .val (.int (0 : Int32)), .val (.int (0 : Int32)), .val (.int (1 : Int32))] []))
  refine own_st (fun t k => XS.iconst X4.here hx rfl (hb hby at_90) k) ?_
  show own_Fin p e below _ (T4.setTop (mkF m 91 #[.val (.int p0), .val (.int (1 : Int32)), .val (.ref w_READ), .val (.int (0 : Int32)), .val (.int (0 : Int32)), .val (.int (0 : Int32)), .val (.int (1 : Int32))] [(.int (1 : Int32))]))
  refine own_st (fun t k => XS.goto X4.here hx rfl (pc0 := 91) (pc' := 95) rfl (hb hby at_91) (by decide) (by decide) k) ?_
  show own_Fin p e below _ (T4.setTop (mkF m 95 #[.val (.int p0), .val (.int (1 : Int32)), .val (.ref w_READ), .val (.int (0 : Int32)), .val (.int (0 : Int32)), .val (.int (0 : Int32)), .val (.int (1 : Int32))] [(.int (1 : Int32))]))
  obtain ⟨fs, hr, hrun, hended, hW, hsame⟩ := X4.leave (v := some (.int (1 : Int32))) (fun h => by rw [Bd.returns] at h; cases h)
  exact ⟨_, _, retN X4 hx (t := .boolean) Bd.returns (by simp) (hb hby at_95) hr, hrun, hended, _, _, rfl, ⟨rfl, N4, e4⟩, ⟨_, rfl⟩, hW, hsame.mono (by decide) (by decide)⟩
theorem d1_17 : decode method_2_code 17 = .ok (.iload_n 0, 1) := by decide +kernel
theorem d1_18 : decode method_2_code 18 = .ok (.iconst 2, 1) := by decide +kernel
theorem d1_19 : decode method_2_code 19 = .ok (.if_icmp .ne 7, 3) := by decide +kernel
theorem d1_22 : decode method_2_code 22 = .ok (.getstatic 16, 3) := by decide +kernel
theorem d1_25 : decode method_2_code 25 = .ok (.areturn, 1) := by decide +kernel
set_option maxRecDepth 65536 in
set_option maxHeartbeats 40000000 in
theorem rm1_2 (l : Launch) (Z : State) (a0 : Array Value) (hw : ∀ d ∈ tables_1, d.before a0 Z = true) (ws : List Jvm.Cond) (w_PATH w_STATUS w_COMMIT w_RANGE w_WRITE w_READ : Addr) (h0 : Heap) (n0 : Nat) (PN : own_Pins Z h0 w_PATH w_STATUS w_COMMIT w_RANGE w_WRITE w_READ) :
    MetFree l (⟨"com/example/uni_lock/unilock/cli/CommandTakesSharedPinLaw", "pick", "(I)Lcom/example/uni_lock/unilock/cli/Command;"⟩ : MethodName) (head1 (Jvm.Cond.code (⟨"com/example/uni_lock/unilock/cli/CommandTakesSharedPinLaw", "pick", "(I)Lcom/example/uni_lock/unilock/cli/Command;"⟩ : MethodName) method_2_code 1 (some (.object "com/example/uni_lock/unilock/cli/Command")) :: ws) ({ frames := 0, cells := 0, slots := 0, locals := 0 } : Room)) (fun a U => a = #[(.int (2 : Int32))] ∧ Z.Warmed39 U.vm ∧ U.heap = h0) (fun _ _ _ _ _ => True) (fun _ U o U' => ∃ v L, o = .returned v ∧ own_Q h0 n0 (some (.ref w_WRITE)) v U'.heap L ∧ FrameEnd U o U' L ({ frames := 0, cells := 0, slots := 0, locals := 0 } : Room).cells ({ frames := 0, cells := 0, slots := 0, locals := 0 } : Room).slots) := by
  obtain ⟨S_PATH, E_PATH, S_STATUS, E_STATUS, S_COMMIT, E_COMMIT, S_RANGE, E_RANGE, S_WRITE, E_WRITE, S_READ, E_READ, F_PATH_ordinal, F_STATUS_ordinal, F_COMMIT_ordinal, F_RANGE_ordinal, F_WRITE_ordinal, F_READ_ordinal⟩ := PN
  refine MetFree.of_bodySF (plainFor_of_name pn_com_example_uni_lock_unilock_cli_CommandTakesSharedPinLaw) hisR ?_
  intro p e s m args below meth c s₁ Bd hml0 hP hK
  obtain ⟨rfl, hZ, hh⟩ := hP
  have hx := Bd.exec
  have hby := Bd.bytes
  have hml : c.maxLocals = 1 := hml0
  have hown : s.vm.findClass "com/example/uni_lock/unilock/cli/CommandTakesSharedPinLaw" = some m.cls := findClass_of_methodNamed Bd.named
  have X0 : Stand p l e ({ frames := 0, cells := 0, slots := 0, locals := 0 } : Room) s m #[(.int (2 : Int32))] below meth c s₁ [] 0 0 := Stand.of_body Bd
  have e0 : s₁.heap = h0 := by rw [← hh, Bd.state]; rfl
  have N0 := Fr.nil n0
  refine (?_ : own_Fin p e below _ _)
  refine own_st (fun t k => castTop (ef_1_I m (2 : Int32)) k) ?_
  show own_Fin p e below _ (s₁.setTop (mkF m 0 #[.val (.int (2 : Int32))] []))
  refine own_st (fun t k => XS.iloadN X0.here hx rfl (hb hby d1_0) rfl k) ?_
  show own_Fin p e below _ (s₁.setTop (mkF m 1 #[.val (.int (2 : Int32))] [(.int (2 : Int32))]))
  refine own_st (fun t k => XS.ifYes X0.here hx rfl (pc0 := 1) (pc' := 8) rfl (hb hby d1_1) rfl (by decide) (by decide) (by decide) k) ?_
  show own_Fin p e below _ (s₁.setTop (mkF m 8 #[.val (.int (2 : Int32))] []))
  refine own_st (fun t k => XS.iloadN X0.here hx rfl (hb hby d1_8) rfl k) ?_
  show own_Fin p e below _ (s₁.setTop (mkF m 9 #[.val (.int (2 : Int32))] [(.int (2 : Int32))]))
  refine own_st (fun t k => XS.iconst X0.here hx rfl (hb hby d1_9) k) ?_
  show own_Fin p e below _ (s₁.setTop (mkF m 10 #[.val (.int (2 : Int32))] [(.int (1 : Int32)), (.int (2 : Int32))]))
  refine own_st (fun t k => XS.icmpYes X0.here hx rfl (pc0 := 10) (pc' := 17) rfl (hb hby d1_10) rfl (by decide) (by decide) (by decide) k) ?_
  show own_Fin p e below _ (s₁.setTop (mkF m 17 #[.val (.int (2 : Int32))] []))
  refine own_st (fun t k => XS.iloadN X0.here hx rfl (hb hby d1_17) rfl k) ?_
  show own_Fin p e below _ (s₁.setTop (mkF m 18 #[.val (.int (2 : Int32))] [(.int (2 : Int32))]))
  refine own_st (fun t k => XS.iconst X0.here hx rfl (hb hby d1_18) k) ?_
  show own_Fin p e below _ (s₁.setTop (mkF m 19 #[.val (.int (2 : Int32))] [(.int (2 : Int32)), (.int (2 : Int32))]))
  refine own_st (fun t k => XS.icmpNo X0.here hx rfl (hb hby d1_19) rfl (by decide) k) ?_
  show own_Fin p e below _ (s₁.setTop (mkF m 22 #[.val (.int (2 : Int32))] []))
  obtain ⟨T1, X1, e1, st1⟩ := getS2 X0 hx hZ hown (host := "") (Or.inl (hw _ (List.mem_of_getElem? (i := 35) rfl))) Via.refl e0 S_WRITE (g := (mkF m 22 #[.val (.int (2 : Int32))] [])) rfl (hb hby d1_22)
  refine own_st st1 ?_
  show own_Fin p e below _ (T1.setTop (mkF m 25 #[.val (.int (2 : Int32))] [(.ref w_WRITE)]))
  obtain ⟨fs, hr, hrun, hended, hW, hsame⟩ := X1.leave (v := some (.ref w_WRITE)) (fun h => by rw [Bd.returns] at h; cases h)
  exact ⟨_, _, retOut X1 hx (t := (.object "com/example/uni_lock/unilock/cli/Command")) Bd.returns rfl (Or.inr (Or.inr (Or.inr (Or.inr ⟨rfl, rfl, rfl⟩)))) (hb hby d1_25) hr, hrun, hended, _, _, rfl, ⟨rfl, N0, e1⟩, ⟨_, rfl⟩, hW, hsame.mono (by decide) (by decide)⟩
set_option maxRecDepth 65536 in
set_option maxHeartbeats 40000000 in
theorem rm2_w_WRITE (l : Launch) (Z : State) (a0 : Array Value) (hw : ∀ d ∈ tables_1, d.before a0 Z = true) (ws : List Jvm.Cond) (w_PATH w_STATUS w_COMMIT w_RANGE w_WRITE w_READ : Addr) (h0 : Heap) (n0 : Nat) (PN : own_Pins Z h0 w_PATH w_STATUS w_COMMIT w_RANGE w_WRITE w_READ) :
    MetFree l (⟨"com/example/uni_lock/unilock/cli/Command", "takesShared", "()Z"⟩ : MethodName) (head1 (Jvm.Cond.code (⟨"com/example/uni_lock/unilock/cli/Command", "takesShared", "()Z"⟩ : MethodName) prog_1_method_7_code 1 (some .boolean) :: ws) ({ frames := 0, cells := 0, slots := 0, locals := 0 } : Room)) (fun a U => a = #[(.ref w_WRITE)] ∧ Z.Warmed39 U.vm ∧ U.heap = h0) (fun _ _ _ _ _ => True) (fun _ U o U' => ∃ v L, o = .returned v ∧ own_Q h0 n0 (some (.int (0 : Int32))) v U'.heap L ∧ FrameEnd U o U' L ({ frames := 0, cells := 0, slots := 0, locals := 0 } : Room).cells ({ frames := 0, cells := 0, slots := 0, locals := 0 } : Room).slots) := by
  obtain ⟨S_PATH, E_PATH, S_STATUS, E_STATUS, S_COMMIT, E_COMMIT, S_RANGE, E_RANGE, S_WRITE, E_WRITE, S_READ, E_READ, F_PATH_ordinal, F_STATUS_ordinal, F_COMMIT_ordinal, F_RANGE_ordinal, F_WRITE_ordinal, F_READ_ordinal⟩ := PN
  refine MetFree.of_bodySF (plainFor_of_name pn_com_example_uni_lock_unilock_cli_Command) hisR ?_
  intro p e s m args below meth c s₁ Bd hml0 hP hK
  obtain ⟨rfl, hZ, hh⟩ := hP
  have hx := Bd.exec
  have hby := Bd.bytes
  have hml : c.maxLocals = 1 := hml0
  have hown : s.vm.findClass "com/example/uni_lock/unilock/cli/Command" = some m.cls := findClass_of_methodNamed Bd.named
  have X0 : Stand p l e ({ frames := 0, cells := 0, slots := 0, locals := 0 } : Room) s m #[(.ref w_WRITE)] below meth c s₁ [] 0 0 := Stand.of_body Bd
  have e0 : s₁.heap = h0 := by rw [← hh, Bd.state]; rfl
  have N0 := Fr.nil n0
  refine (?_ : own_Fin p e below _ _)
  refine own_st (fun t k => castTop (ef_2_R m w_WRITE) k) ?_
  show own_Fin p e below _ (s₁.setTop (mkF m 0 #[.val (.ref w_WRITE)] []))
  refine own_st (fun t k => XS.aloadN X0.here hx rfl (hb hby d2_0) rfl rfl k) ?_
  show own_Fin p e below _ (s₁.setTop (mkF m 1 #[.val (.ref w_WRITE)] [(.ref w_WRITE)]))
  obtain ⟨T1, X1, e1, st1⟩ := getS2 X0 hx hZ hown (host := "") (Or.inl (hw _ (List.mem_of_getElem? (i := 13) rfl))) Via.refl e0 S_PATH (g := (mkF m 1 #[.val (.ref w_WRITE)] [(.ref w_WRITE)])) rfl (hb hby d2_1)
  refine own_st st1 ?_
  show own_Fin p e below _ (T1.setTop (mkF m 4 #[.val (.ref w_WRITE)] [(.ref w_PATH), (.ref w_WRITE)]))
  refine own_st (fun t k => Jvm.RoadKit.acmp (g := (mkF m 4 #[.val (.ref w_WRITE)] [(.ref w_PATH), (.ref w_WRITE)])) X1 hx rfl rfl rfl (pc0 := 4) (pc' := 7) (same := false) rfl (hb hby d2_4) rfl (decide_eq_false fun q => (Fld.ne F_WRITE_ordinal F_PATH_ordinal (by simp)) (Value.ref.inj q)) (by decide) (by decide) k) ?_
  show own_Fin p e below _ (T1.setTop (mkF m 7 #[.val (.ref w_WRITE)] []))
  refine own_st (fun t k => XS.aloadN X1.here hx rfl (hb hby d2_7) rfl rfl k) ?_
  show own_Fin p e below _ (T1.setTop (mkF m 8 #[.val (.ref w_WRITE)] [(.ref w_WRITE)]))
  obtain ⟨T2, X2, e2, st2⟩ := getS2 X1 hx hZ hown (host := "") (Or.inl (hw _ (List.mem_of_getElem? (i := 28) rfl))) Via.refl e1 S_RANGE (g := (mkF m 8 #[.val (.ref w_WRITE)] [(.ref w_WRITE)])) rfl (hb hby d2_8)
  refine own_st st2 ?_
  show own_Fin p e below _ (T2.setTop (mkF m 11 #[.val (.ref w_WRITE)] [(.ref w_RANGE), (.ref w_WRITE)]))
  refine own_st (fun t k => Jvm.RoadKit.acmp (g := (mkF m 11 #[.val (.ref w_WRITE)] [(.ref w_RANGE), (.ref w_WRITE)])) X2 hx rfl rfl rfl (pc0 := 11) (pc' := 18) (same := false) rfl (hb hby d2_11) rfl (decide_eq_false fun q => (Fld.ne F_WRITE_ordinal F_RANGE_ordinal (by simp)) (Value.ref.inj q)) (by decide) (by decide) k) ?_
  show own_Fin p e below _ (T2.setTop (mkF m 18 #[.val (.ref w_WRITE)] []))
  refine own_st (fun t k => XS.iconst X2.here hx rfl (hb hby d2_18) k) ?_
  show own_Fin p e below _ (T2.setTop (mkF m 19 #[.val (.ref w_WRITE)] [(.int (0 : Int32))]))
  obtain ⟨fs, hr, hrun, hended, hW, hsame⟩ := X2.leave (v := some (.int (0 : Int32))) (fun h => by rw [Bd.returns] at h; cases h)
  exact ⟨_, _, retN X2 hx (t := .boolean) Bd.returns (by simp) (hb hby d2_19) hr, hrun, hended, _, _, rfl, ⟨rfl, N0, e2⟩, ⟨_, rfl⟩, hW, hsame.mono (by decide) (by decide)⟩
set_option maxRecDepth 65536 in
set_option maxHeartbeats 40000000 in
theorem rm3_w_WRITE (l : Launch) (Z : State) (a0 : Array Value) (hw : ∀ d ∈ tables_1, d.before a0 Z = true) (ws : List Jvm.Cond) (w_PATH w_STATUS w_COMMIT w_RANGE w_WRITE w_READ : Addr) (h0 : Heap) (n0 : Nat) (PN : own_Pins Z h0 w_PATH w_STATUS w_COMMIT w_RANGE w_WRITE w_READ) :
    MetFree l (⟨"com/example/uni_lock/unilock/cli/Command", "takesDelete", "()Z"⟩ : MethodName) (head1 (Jvm.Cond.code (⟨"com/example/uni_lock/unilock/cli/Command", "takesDelete", "()Z"⟩ : MethodName) prog_1_method_8_code 1 (some .boolean) :: ws) ({ frames := 0, cells := 0, slots := 0, locals := 0 } : Room)) (fun a U => a = #[(.ref w_WRITE)] ∧ Z.Warmed39 U.vm ∧ U.heap = h0) (fun _ _ _ _ _ => True) (fun _ U o U' => ∃ v L, o = .returned v ∧ own_Q h0 n0 (some (.int (0 : Int32))) v U'.heap L ∧ FrameEnd U o U' L ({ frames := 0, cells := 0, slots := 0, locals := 0 } : Room).cells ({ frames := 0, cells := 0, slots := 0, locals := 0 } : Room).slots) := by
  obtain ⟨S_PATH, E_PATH, S_STATUS, E_STATUS, S_COMMIT, E_COMMIT, S_RANGE, E_RANGE, S_WRITE, E_WRITE, S_READ, E_READ, F_PATH_ordinal, F_STATUS_ordinal, F_COMMIT_ordinal, F_RANGE_ordinal, F_WRITE_ordinal, F_READ_ordinal⟩ := PN
  refine MetFree.of_bodySF (plainFor_of_name pn_com_example_uni_lock_unilock_cli_Command) hisR ?_
  intro p e s m args below meth c s₁ Bd hml0 hP hK
  obtain ⟨rfl, hZ, hh⟩ := hP
  have hx := Bd.exec
  have hby := Bd.bytes
  have hml : c.maxLocals = 1 := hml0
  have hown : s.vm.findClass "com/example/uni_lock/unilock/cli/Command" = some m.cls := findClass_of_methodNamed Bd.named
  have X0 : Stand p l e ({ frames := 0, cells := 0, slots := 0, locals := 0 } : Room) s m #[(.ref w_WRITE)] below meth c s₁ [] 0 0 := Stand.of_body Bd
  have e0 : s₁.heap = h0 := by rw [← hh, Bd.state]; rfl
  have N0 := Fr.nil n0
  refine (?_ : own_Fin p e below _ _)
  refine own_st (fun t k => castTop (ef_3_R m w_WRITE) k) ?_
  show own_Fin p e below _ (s₁.setTop (mkF m 0 #[.val (.ref w_WRITE)] []))
  refine own_st (fun t k => XS.aloadN X0.here hx rfl (hb hby d3_0) rfl rfl k) ?_
  show own_Fin p e below _ (s₁.setTop (mkF m 1 #[.val (.ref w_WRITE)] [(.ref w_WRITE)]))
  obtain ⟨T1, X1, e1, st1⟩ := getS2 X0 hx hZ hown (host := "") (Or.inl (hw _ (List.mem_of_getElem? (i := 13) rfl))) Via.refl e0 S_PATH (g := (mkF m 1 #[.val (.ref w_WRITE)] [(.ref w_WRITE)])) rfl (hb hby d3_1)
  refine own_st st1 ?_
  show own_Fin p e below _ (T1.setTop (mkF m 4 #[.val (.ref w_WRITE)] [(.ref w_PATH), (.ref w_WRITE)]))
  refine own_st (fun t k => Jvm.RoadKit.acmp (g := (mkF m 4 #[.val (.ref w_WRITE)] [(.ref w_PATH), (.ref w_WRITE)])) X1 hx rfl rfl rfl (pc0 := 4) (pc' := 11) (same := false) rfl (hb hby d3_4) rfl (decide_eq_false fun q => (Fld.ne F_WRITE_ordinal F_PATH_ordinal (by simp)) (Value.ref.inj q)) (by decide) (by decide) k) ?_
  show own_Fin p e below _ (T1.setTop (mkF m 11 #[.val (.ref w_WRITE)] []))
  refine own_st (fun t k => XS.iconst X1.here hx rfl (hb hby d3_11) k) ?_
  show own_Fin p e below _ (T1.setTop (mkF m 12 #[.val (.ref w_WRITE)] [(.int (0 : Int32))]))
  obtain ⟨fs, hr, hrun, hended, hW, hsame⟩ := X1.leave (v := some (.int (0 : Int32))) (fun h => by rw [Bd.returns] at h; cases h)
  exact ⟨_, _, retN X1 hx (t := .boolean) Bd.returns (by simp) (hb hby d3_12) hr, hrun, hended, _, _, rfl, ⟨rfl, N0, e1⟩, ⟨_, rfl⟩, hW, hsame.mono (by decide) (by decide)⟩
set_option maxRecDepth 65536 in
set_option maxHeartbeats 40000000 in
theorem rm5_w_WRITE (l : Launch) (Z : State) (a0 : Array Value) (hw : ∀ d ∈ tables_1, d.before a0 Z = true) (ws : List Jvm.Cond) (w_PATH w_STATUS w_COMMIT w_RANGE w_WRITE w_READ : Addr) (h0 : Heap) (n0 : Nat) (PN : own_Pins Z h0 w_PATH w_STATUS w_COMMIT w_RANGE w_WRITE w_READ) :
    MetFree l (⟨"com/example/uni_lock/unilock/cli/Command", "takesRange", "()Z"⟩ : MethodName) (head1 (Jvm.Cond.code (⟨"com/example/uni_lock/unilock/cli/Command", "takesRange", "()Z"⟩ : MethodName) prog_1_method_9_code 1 (some .boolean) :: ws) ({ frames := 0, cells := 0, slots := 0, locals := 0 } : Room)) (fun a U => a = #[(.ref w_WRITE)] ∧ Z.Warmed39 U.vm ∧ U.heap = h0) (fun _ _ _ _ _ => True) (fun _ U o U' => ∃ v L, o = .returned v ∧ own_Q h0 n0 (some (.int (0 : Int32))) v U'.heap L ∧ FrameEnd U o U' L ({ frames := 0, cells := 0, slots := 0, locals := 0 } : Room).cells ({ frames := 0, cells := 0, slots := 0, locals := 0 } : Room).slots) := by
  obtain ⟨S_PATH, E_PATH, S_STATUS, E_STATUS, S_COMMIT, E_COMMIT, S_RANGE, E_RANGE, S_WRITE, E_WRITE, S_READ, E_READ, F_PATH_ordinal, F_STATUS_ordinal, F_COMMIT_ordinal, F_RANGE_ordinal, F_WRITE_ordinal, F_READ_ordinal⟩ := PN
  refine MetFree.of_bodySF (plainFor_of_name pn_com_example_uni_lock_unilock_cli_Command) hisR ?_
  intro p e s m args below meth c s₁ Bd hml0 hP hK
  obtain ⟨rfl, hZ, hh⟩ := hP
  have hx := Bd.exec
  have hby := Bd.bytes
  have hml : c.maxLocals = 1 := hml0
  have hown : s.vm.findClass "com/example/uni_lock/unilock/cli/Command" = some m.cls := findClass_of_methodNamed Bd.named
  have X0 : Stand p l e ({ frames := 0, cells := 0, slots := 0, locals := 0 } : Room) s m #[(.ref w_WRITE)] below meth c s₁ [] 0 0 := Stand.of_body Bd
  have e0 : s₁.heap = h0 := by rw [← hh, Bd.state]; rfl
  have N0 := Fr.nil n0
  refine (?_ : own_Fin p e below _ _)
  refine own_st (fun t k => castTop (ef_5_R m w_WRITE) k) ?_
  show own_Fin p e below _ (s₁.setTop (mkF m 0 #[.val (.ref w_WRITE)] []))
  refine own_st (fun t k => XS.aloadN X0.here hx rfl (hb hby d5_0) rfl rfl k) ?_
  show own_Fin p e below _ (s₁.setTop (mkF m 1 #[.val (.ref w_WRITE)] [(.ref w_WRITE)]))
  obtain ⟨T1, X1, e1, st1⟩ := getS2 X0 hx hZ hown (host := "") (Or.inl (hw _ (List.mem_of_getElem? (i := 28) rfl))) Via.refl e0 S_RANGE (g := (mkF m 1 #[.val (.ref w_WRITE)] [(.ref w_WRITE)])) rfl (hb hby d5_1)
  refine own_st st1 ?_
  show own_Fin p e below _ (T1.setTop (mkF m 4 #[.val (.ref w_WRITE)] [(.ref w_RANGE), (.ref w_WRITE)]))
  refine own_st (fun t k => Jvm.RoadKit.acmp (g := (mkF m 4 #[.val (.ref w_WRITE)] [(.ref w_RANGE), (.ref w_WRITE)])) X1 hx rfl rfl rfl (pc0 := 4) (pc' := 11) (same := false) rfl (hb hby d5_4) rfl (decide_eq_false fun q => (Fld.ne F_WRITE_ordinal F_RANGE_ordinal (by simp)) (Value.ref.inj q)) (by decide) (by decide) k) ?_
  show own_Fin p e below _ (T1.setTop (mkF m 11 #[.val (.ref w_WRITE)] []))
  refine own_st (fun t k => XS.iconst X1.here hx rfl (hb hby d5_11) k) ?_
  show own_Fin p e below _ (T1.setTop (mkF m 12 #[.val (.ref w_WRITE)] [(.int (0 : Int32))]))
  obtain ⟨fs, hr, hrun, hended, hW, hsame⟩ := X1.leave (v := some (.int (0 : Int32))) (fun h => by rw [Bd.returns] at h; cases h)
  exact ⟨_, _, retN X1 hx (t := .boolean) Bd.returns (by simp) (hb hby d5_12) hr, hrun, hended, _, _, rfl, ⟨rfl, N0, e1⟩, ⟨_, rfl⟩, hW, hsame.mono (by decide) (by decide)⟩
set_option maxRecDepth 65536 in
set_option maxHeartbeats 40000000 in
theorem rm0_c2 (l : Launch) (Z : State) (a0 : Array Value) (hw : ∀ d ∈ tables_1, d.before a0 Z = true) (ws : List Jvm.Cond) (w_PATH w_STATUS w_COMMIT w_RANGE w_WRITE w_READ : Addr) (p0 : Int32) (h0 : Heap) (n0 : Nat) (PN : own_Pins Z h0 w_PATH w_STATUS w_COMMIT w_RANGE w_WRITE w_READ) (q0 : ((p0 &&& (2147483647 : Int32)) % (6 : Int32)) = (2 : Int32)) :
    MetFree l x (head1 (Jvm.Cond.code x code maxLocals ret :: ws) room_1) (fun a U => a = #[(.int p0)] ∧ Z.Warmed39 U.vm ∧ U.heap = h0) (fun _ _ _ _ _ => True) (fun _ U o U' => ∃ v L, o = .returned v ∧ own_Q h0 n0 (some (.int (1 : Int32))) v U'.heap L ∧ FrameEnd U o U' L room_1.cells room_1.slots) := by
  obtain ⟨S_PATH, E_PATH, S_STATUS, E_STATUS, S_COMMIT, E_COMMIT, S_RANGE, E_RANGE, S_WRITE, E_WRITE, S_READ, E_READ, F_PATH_ordinal, F_STATUS_ordinal, F_COMMIT_ordinal, F_RANGE_ordinal, F_WRITE_ordinal, F_READ_ordinal⟩ := PN
  refine MetFree.of_bodySF (plainFor_of_name pn_com_example_uni_lock_unilock_cli_CommandTakesSharedPinLaw) hisR ?_
  intro p e s m args below meth c s₁ Bd hml0 hP hK
  obtain ⟨rfl, hZ, hh⟩ := hP
  have hx := Bd.exec
  have hby := Bd.bytes
  have hml : c.maxLocals = 7 := hml0
  have hown : s.vm.findClass "com/example/uni_lock/unilock/cli/CommandTakesSharedPinLaw" = some m.cls := findClass_of_methodNamed Bd.named
  have X0 : Stand p l e room_1 s m #[(.int p0)] below meth c s₁ [] 0 0 := Stand.of_body Bd
  have e0 : s₁.heap = h0 := by rw [← hh, Bd.state]; rfl
  have N0 := Fr.nil n0
  refine (?_ : own_Fin p e below _ _)
  refine own_st (fun t k => castTop (ef_0_I m p0) k) ?_
  show own_Fin p e below _ (s₁.setTop (mkF m 0 #[.val (.int p0), .unset, .unset, .unset, .unset, .unset, .unset] []))
  refine own_st (fun t k => XS.iloadN X0.here hx rfl (hb hby at_0) rfl k) ?_
  show own_Fin p e below _ (s₁.setTop (mkF m 1 #[.val (.int p0), .unset, .unset, .unset, .unset, .unset, .unset] [(.int p0)]))
  refine own_st (fun t k => X0.ldcI hx hown (mvT hZ (hw _ (List.mem_of_getElem? (i := 0) rfl))) rfl (hb hby at_1) k) ?_
  show own_Fin p e below _ (s₁.setTop (mkF m 3 #[.val (.int p0), .unset, .unset, .unset, .unset, .unset, .unset] [(.int (2147483647 : Int32)), (.int p0)]))
  refine own_st (fun t k => XS.iand X0.here hx rfl (hb hby at_3) rfl k) ?_
  show own_Fin p e below _ (s₁.setTop (mkF m 4 #[.val (.int p0), .unset, .unset, .unset, .unset, .unset, .unset] [(.int (p0 &&& (2147483647 : Int32)))]))
  refine own_st (fun t k => XS.bipush X0.here hx rfl (hb hby at_4) k) ?_
  show own_Fin p e below _ (s₁.setTop (mkF m 6 #[.val (.int p0), .unset, .unset, .unset, .unset, .unset, .unset] [(.int (6 : Int32)), (.int (p0 &&& (2147483647 : Int32)))]))
  refine own_st (fun t k => iremM X0 hx rfl (hb hby at_6) rfl (by decide) k) ?_
  show own_Fin p e below _ (s₁.setTop (mkF m 7 #[.val (.int p0), .unset, .unset, .unset, .unset, .unset, .unset] [(.int ((p0 &&& (2147483647 : Int32)) % (6 : Int32)))]))
  rw [q0]
  show own_Fin p e below _ (s₁.setTop (mkF m 7 #[.val (.int p0), .unset, .unset, .unset, .unset, .unset, .unset] [(.int (2 : Int32))]))
  refine own_st (fun t k => XS.istoreN X0.here hx rfl (hb hby at_7) rfl (l' := #[.val (.int p0), .val (.int (2 : Int32)), .unset, .unset, .unset, .unset, .unset]) rfl k) ?_
  show own_Fin p e below _ (s₁.setTop (mkF m 8 #[.val (.int p0), .val (.int (2 : Int32)), .unset, .unset, .unset, .unset, .unset] []))
  refine own_st (fun t k => XS.iloadN X0.here hx rfl (hb hby at_8) rfl k) ?_
  show own_Fin p e below _ (s₁.setTop (mkF m 9 #[.val (.int p0), .val (.int (2 : Int32)), .unset, .unset, .unset, .unset, .unset] [(.int (2 : Int32))]))
  obtain ⟨_, _, ⟨T1, L1, k1, n1⟩, -, X1, ⟨Lc1, hQ1, l1, y1, z1⟩, st1⟩ := Jvm.LawKit.callS X0 hx (y := (⟨"com/example/uni_lock/unilock/cli/CommandTakesSharedPinLaw", "pick", "(I)Lcom/example/uni_lock/unilock/cli/Command;"⟩ : MethodName)) hown (mvT hZ (hw _ (List.mem_of_getElem? (i := 1) rfl))) (mvT hZ (hw _ (List.mem_of_getElem? (i := 2) rfl))) (mvT hZ (hw _ (List.mem_of_getElem? (i := 3) rfl))) (mvT hZ (hw _ (List.mem_of_getElem? (i := 4) rfl))) (by decide) (backOf (W := 0) (rm1_2 l Z a0 hw [] w_PATH w_STATUS w_COMMIT w_RANGE w_WRITE w_READ h0 n0 (by exact ⟨S_PATH, E_PATH, S_STATUS, E_STATUS, S_COMMIT, E_COMMIT, S_RANGE, E_RANGE, S_WRITE, E_WRITE, S_READ, E_READ, F_PATH_ordinal, F_STATUS_ordinal, F_COMMIT_ordinal, F_RANGE_ordinal, F_WRITE_ordinal, F_READ_ordinal⟩)) hZ (hw _ (List.mem_of_getElem? (i := 4) rfl)) (hw _ (List.mem_of_getElem? (i := 3) rfl)) (by decide) (by decide)) (g := (mkF m 9 #[.val (.int p0), .val (.int (2 : Int32)), .unset, .unset, .unset, .unset, .unset] [(.int (2 : Int32))])) rfl (by rw [hml]; rfl) (argsL := [(.int (2 : Int32))]) (rest := []) (lenOf pd__I_Lcom_example_uni_lock_unilock_cli_Command_ rfl) rfl (by show 2 * 0 + _ ≤ _; exact Nat.le_of_eq rfl) (hb hby at_9) (fun _ _ => ⟨rfl, e0, (by decide : 0 + 0 ≤ _), (by decide : 0 + 0 ≤ _)⟩)
  dsimp only [Pt.U, Pt.locs, Pt.cells, Pt.slots] at X1 l1 y1 z1 st1 hQ1
  subst l1 y1 z1
  obtain ⟨rfl, N1q, e1⟩ := hQ1
  have N1 := Fr.app N0 N1q
  refine own_st st1 ?_
  show own_Fin p e below _ (T1.setTop (mkF m 12 #[.val (.int p0), .val (.int (2 : Int32)), .unset, .unset, .unset, .unset, .unset] [(.ref w_WRITE)]))
  refine own_st (fun t k => XS.astoreN X1.here hx rfl (hb hby at_12) rfl rfl (l' := #[.val (.int p0), .val (.int (2 : Int32)), .val (.ref w_WRITE), .unset, .unset, .unset, .unset]) rfl k) ?_
  show own_Fin p e below _ (T1.setTop (mkF m 13 #[.val (.int p0), .val (.int (2 : Int32)), .val (.ref w_WRITE), .unset, .unset, .unset, .unset] []))
  refine own_st (fun t k => XS.aloadN X1.here hx rfl (hb hby at_13) rfl rfl k) ?_
  show own_Fin p e below _ (T1.setTop (mkF m 14 #[.val (.int p0), .val (.int (2 : Int32)), .val (.ref w_WRITE), .unset, .unset, .unset, .unset] [(.ref w_WRITE)]))
  obtain ⟨cq2, kq2, q2a, q2b, q2c⟩ := isOf hZ e1 E_WRITE
  obtain ⟨_, _, ⟨T2, L2, k2, n2⟩, -, X2, ⟨Lc2, hQ2, l2, y2, z2⟩, st2⟩ := X1.virtualBack hx (y := (⟨"com/example/uni_lock/unilock/cli/Command", "takesShared", "()Z"⟩ : MethodName)) (z := (⟨"com/example/uni_lock/unilock/cli/Command", "takesShared", "()Z"⟩ : MethodName)) hown (mvT hZ (hw _ (List.mem_of_getElem? (i := 8) rfl))) (mvT hZ (hw _ (List.mem_of_getElem? (i := 9) rfl))) (notFace_of_selects (args := #[]) (mvT hZ (hw _ (List.mem_of_getElem? (i := 11) rfl)))) (mvT hZ (hw _ (List.mem_of_getElem? (i := 11) rfl))) (mvT hZ (hw _ (List.mem_of_getElem? (i := 10) rfl))) (by decide) (backOf (W := 0) (rm2_w_WRITE l Z a0 hw [] w_PATH w_STATUS w_COMMIT w_RANGE w_WRITE w_READ h0 n0 (by exact ⟨S_PATH, E_PATH, S_STATUS, E_STATUS, S_COMMIT, E_COMMIT, S_RANGE, E_RANGE, S_WRITE, E_WRITE, S_READ, E_READ, F_PATH_ordinal, F_STATUS_ordinal, F_COMMIT_ordinal, F_RANGE_ordinal, F_WRITE_ordinal, F_READ_ordinal⟩)) hZ (hw _ (List.mem_of_getElem? (i := 12) rfl)) (hw _ (List.mem_of_getElem? (i := 6) rfl)) (by decide) (by decide)) q2a q2c (g := (mkF m 14 #[.val (.int p0), .val (.int (2 : Int32)), .val (.ref w_WRITE), .unset, .unset, .unset, .unset] [(.ref w_WRITE)])) rfl (by rw [hml]; rfl) (Steps.refl _) (argsL := []) (rest := []) (lenOf pd___Z rfl) rfl (by show 2 * 0 + _ ≤ _; exact Nat.le_of_eq rfl) (hb hby at_14) (fun _ _ => ⟨rfl, e1, (by decide : 0 + 0 ≤ _), (by decide : 0 + 0 ≤ _)⟩)
  dsimp only [Pt.U, Pt.locs, Pt.cells, Pt.slots] at X2 l2 y2 z2 st2 hQ2
  subst l2 y2 z2
  obtain ⟨rfl, N2q, e2⟩ := hQ2
  have N2 := Fr.app N1 N2q
  refine own_tr st2 ?_
  show own_Fin p e below _ (T2.setTop (mkF m 17 #[.val (.int p0), .val (.int (2 : Int32)), .val (.ref w_WRITE), .unset, .unset, .unset, .unset] [(.int (0 : Int32))]))
  refine own_st (fun t k => XS.istoreN X2.here hx rfl (hb hby at_17) rfl (l' := #[.val (.int p0), .val (.int (2 : Int32)), .val (.ref w_WRITE), .val (.int (0 : Int32)), .unset, .unset, .unset]) rfl k) ?_
  show own_Fin p e below _ (T2.setTop (mkF m 18 #[.val (.int p0), .val (.int (2 : Int32)), .val (.ref w_WRITE), .val (.int (0 : Int32)), .unset, .unset, .unset] []))
  refine own_st (fun t k => XS.iloadN X2.here hx rfl (hb hby at_18) rfl k) ?_
  show own_Fin p e below _ (T2.setTop (mkF m 19 #[.val (.int p0), .val (.int (2 : Int32)), .val (.ref w_WRITE), .val (.int (0 : Int32)), .unset, .unset, .unset] [(.int (2 : Int32))]))
  refine own_st (fun t k => XS.ifNo X2.here hx rfl (hb hby at_19) rfl (by decide) k) ?_
  show own_Fin p e below _ (T2.setTop (mkF m 22 #[.val (.int p0), .val (.int (2 : Int32)), .val (.ref w_WRITE), .val (.int (0 : Int32)), .unset, .unset, .unset] []))
  refine own_st (fun t k => XS.iloadN X2.here hx rfl (hb hby at_22) rfl k) ?_
  show own_Fin p e below _ (T2.setTop (mkF m 23 #[.val (.int p0), .val (.int (2 : Int32)), .val (.ref w_WRITE), .val (.int (0 : Int32)), .unset, .unset, .unset] [(.int (2 : Int32))]))
  refine own_st (fun t k => XS.iconst X2.here hx rfl (hb hby at_23) k) ?_
  show own_Fin p e below _ (T2.setTop (mkF m 24 #[.val (.int p0), .val (.int (2 : Int32)), .val (.ref w_WRITE), .val (.int (0 : Int32)), .unset, .unset, .unset] [(.int (4 : Int32)), (.int (2 : Int32))]))
  refine own_st (fun t k => XS.icmpYes X2.here hx rfl (pc0 := 24) (pc' := 31) rfl (hb hby at_24) rfl (by decide) (by decide) (by decide) k) ?_
  show own_Fin p e below _ (T2.setTop (mkF m 31 #[.val (.int p0), .val (.int (2 : Int32)), .val (.ref w_WRITE), .val (.int (0 : Int32)), .unset, .unset, .unset] []))
  refine own_st (fun t k => XS.iconst X2.here hx rfl (hb hby at_31) k) ?_
  show own_Fin p e below _ (T2.setTop (mkF m 32 #[.val (.int p0), .val (.int (2 : Int32)), .val (.ref w_WRITE), .val (.int (0 : Int32)), .unset, .unset, .unset] [(.int (0 : Int32))]))
  refine own_st (fun t k => XS.istore X2.here hx rfl (hb hby at_32) rfl (l' := #[.val (.int p0), .val (.int (2 : Int32)), .val (.ref w_WRITE), .val (.int (0 : Int32)), .val (.int (0 : Int32)), .unset, .unset]) rfl k) ?_
  show own_Fin p e below _ (T2.setTop (mkF m 34 #[.val (.int p0), .val (.int (2 : Int32)), .val (.ref w_WRITE), .val (.int (0 : Int32)), .val (.int (0 : Int32)), .unset, .unset] []))
  refine own_st (fun t k => XS.aloadN X2.here hx rfl (hb hby at_34) rfl rfl k) ?_
  show own_Fin p e below _ (T2.setTop (mkF m 35 #[.val (.int p0), .val (.int (2 : Int32)), .val (.ref w_WRITE), .val (.int (0 : Int32)), .val (.int (0 : Int32)), .unset, .unset] [(.ref w_WRITE)]))
  obtain ⟨cq3, kq3, q3a, q3b, q3c⟩ := isOf hZ e2 E_WRITE
  obtain ⟨_, _, ⟨T3, L3, k3, n3⟩, -, X3, ⟨Lc3, hQ3, l3, y3, z3⟩, st3⟩ := X2.virtualBack hx (y := (⟨"com/example/uni_lock/unilock/cli/Command", "takesDelete", "()Z"⟩ : MethodName)) (z := (⟨"com/example/uni_lock/unilock/cli/Command", "takesDelete", "()Z"⟩ : MethodName)) hown (mvT hZ (hw _ (List.mem_of_getElem? (i := 14) rfl))) (mvT hZ (hw _ (List.mem_of_getElem? (i := 15) rfl))) (notFace_of_selects (args := #[]) (mvT hZ (hw _ (List.mem_of_getElem? (i := 17) rfl)))) (mvT hZ (hw _ (List.mem_of_getElem? (i := 17) rfl))) (mvT hZ (hw _ (List.mem_of_getElem? (i := 16) rfl))) (by decide) (backOf (W := 0) (rm3_w_WRITE l Z a0 hw [] w_PATH w_STATUS w_COMMIT w_RANGE w_WRITE w_READ h0 n0 (by exact ⟨S_PATH, E_PATH, S_STATUS, E_STATUS, S_COMMIT, E_COMMIT, S_RANGE, E_RANGE, S_WRITE, E_WRITE, S_READ, E_READ, F_PATH_ordinal, F_STATUS_ordinal, F_COMMIT_ordinal, F_RANGE_ordinal, F_WRITE_ordinal, F_READ_ordinal⟩)) hZ (hw _ (List.mem_of_getElem? (i := 18) rfl)) (hw _ (List.mem_of_getElem? (i := 6) rfl)) (by decide) (by decide)) q3a q3c (g := (mkF m 35 #[.val (.int p0), .val (.int (2 : Int32)), .val (.ref w_WRITE), .val (.int (0 : Int32)), .val (.int (0 : Int32)), .unset, .unset] [(.ref w_WRITE)])) rfl (by rw [hml]; rfl) (Steps.refl _) (argsL := []) (rest := []) (lenOf pd___Z rfl) rfl (by show 2 * 0 + _ ≤ _; exact Nat.le_of_eq rfl) (hb hby at_35) (fun _ _ => ⟨rfl, e2, (by decide : 0 + 0 ≤ _), (by decide : 0 + 0 ≤ _)⟩)
  dsimp only [Pt.U, Pt.locs, Pt.cells, Pt.slots] at X3 l3 y3 z3 st3 hQ3
  subst l3 y3 z3
  obtain ⟨rfl, N3q, e3⟩ := hQ3
  have N3 := Fr.app N2 N3q
  refine own_tr st3 ?_
  show own_Fin p e below _ (T3.setTop (mkF m 38 #[.val (.int p0), .val (.int (2 : Int32)), .val (.ref w_WRITE), .val (.int (0 : Int32)), .val (.int (0 : Int32)), .unset, .unset] [(.int (0 : Int32))]))
  refine own_st (fun t k => XS.ifNo X3.here hx rfl (hb hby at_38) rfl (by decide) k) ?_
  show own_Fin p e below _ (T3.setTop (mkF m 41 #[.val (.int p0), .val (.int (2 : Int32)), .val (.ref w_WRITE), .val (.int (0 : Int32)), .val (.int (0 : Int32)), .unset, .unset] []))
  refine own_st (fun t k => XS.aloadN X3.here hx rfl (hb hby at_41) rfl rfl k) ?_
  show own_Fin p e below _ (T3.setTop (mkF m 42 #[.val (.int p0), .val (.int (2 : Int32)), .val (.ref w_WRITE), .val (.int (0 : Int32)), .val (.int (0 : Int32)), .unset, .unset] [(.ref w_WRITE)]))
  obtain ⟨cq4, kq4, q4a, q4b, q4c⟩ := isOf hZ e3 E_WRITE
  obtain ⟨_, _, ⟨T4, L4, k4, n4⟩, -, X4, ⟨Lc4, hQ4, l4, y4, z4⟩, st4⟩ := X3.virtualBack hx (y := (⟨"com/example/uni_lock/unilock/cli/Command", "takesRange", "()Z"⟩ : MethodName)) (z := (⟨"com/example/uni_lock/unilock/cli/Command", "takesRange", "()Z"⟩ : MethodName)) hown (mvT hZ (hw _ (List.mem_of_getElem? (i := 30) rfl))) (mvT hZ (hw _ (List.mem_of_getElem? (i := 31) rfl))) (notFace_of_selects (args := #[]) (mvT hZ (hw _ (List.mem_of_getElem? (i := 33) rfl)))) (mvT hZ (hw _ (List.mem_of_getElem? (i := 33) rfl))) (mvT hZ (hw _ (List.mem_of_getElem? (i := 32) rfl))) (by decide) (backOf (W := 0) (rm5_w_WRITE l Z a0 hw [] w_PATH w_STATUS w_COMMIT w_RANGE w_WRITE w_READ h0 n0 (by exact ⟨S_PATH, E_PATH, S_STATUS, E_STATUS, S_COMMIT, E_COMMIT, S_RANGE, E_RANGE, S_WRITE, E_WRITE, S_READ, E_READ, F_PATH_ordinal, F_STATUS_ordinal, F_COMMIT_ordinal, F_RANGE_ordinal, F_WRITE_ordinal, F_READ_ordinal⟩)) hZ (hw _ (List.mem_of_getElem? (i := 34) rfl)) (hw _ (List.mem_of_getElem? (i := 6) rfl)) (by decide) (by decide)) q4a q4c (g := (mkF m 42 #[.val (.int p0), .val (.int (2 : Int32)), .val (.ref w_WRITE), .val (.int (0 : Int32)), .val (.int (0 : Int32)), .unset, .unset] [(.ref w_WRITE)])) rfl (by rw [hml]; rfl) (Steps.refl _) (argsL := []) (rest := []) (lenOf pd___Z rfl) rfl (by show 2 * 0 + _ ≤ _; exact Nat.le_of_eq rfl) (hb hby at_42) (fun _ _ => ⟨rfl, e3, (by decide : 0 + 0 ≤ _), (by decide : 0 + 0 ≤ _)⟩)
  dsimp only [Pt.U, Pt.locs, Pt.cells, Pt.slots] at X4 l4 y4 z4 st4 hQ4
  subst l4 y4 z4
  obtain ⟨rfl, N4q, e4⟩ := hQ4
  have N4 := Fr.app N3 N4q
  refine own_tr st4 ?_
  show own_Fin p e below _ (T4.setTop (mkF m 45 #[.val (.int p0), .val (.int (2 : Int32)), .val (.ref w_WRITE), .val (.int (0 : Int32)), .val (.int (0 : Int32)), .unset, .unset] [(.int (0 : Int32))]))
  refine own_st (fun t k => XS.ifYes X4.here hx rfl (pc0 := 45) (pc' := 52) rfl (hb hby at_45) rfl (by decide) (by decide) (by decide) k) ?_
  show own_Fin p e below _ (T4.setTop (mkF m 52 #[.val (.int p0), .val (.int (2 : Int32)), .val (.ref w_WRITE), .val (.int (0 : Int32)), .val (.int (0 : Int32)), .unset, .unset] []))
  refine own_st (fun t k => XS.iconst X4.here hx rfl (hb hby at_52) k) ?_
  show own_Fin p e below _ (T4.setTop (mkF m 53 #[.val (.int p0), .val (.int (2 : Int32)), .val (.ref w_WRITE), .val (.int (0 : Int32)), .val (.int (0 : Int32)), .unset, .unset] [(.int (0 : Int32))]))
  refine own_st (fun t k => XS.istore X4.here hx rfl (hb hby at_53) rfl (l' := #[.val (.int p0), .val (.int (2 : Int32)), .val (.ref w_WRITE), .val (.int (0 : Int32)), .val (.int (0 : Int32)), .val (.int (0 : Int32)), .unset]) rfl k) ?_
  show own_Fin p e below _ (T4.setTop (mkF m 55 #[.val (.int p0), .val (.int (2 : Int32)), .val (.ref w_WRITE), .val (.int (0 : Int32)), .val (.int (0 : Int32)), .val (.int (0 : Int32)), .unset] []))
  refine own_st (fun t k => XS.iloadN X4.here hx rfl (hb hby at_55) rfl k) ?_
  show own_Fin p e below _ (T4.setTop (mkF m 56 #[.val (.int p0), .val (.int (2 : Int32)), .val (.ref w_WRITE), .val (.int (0 : Int32)), .val (.int (0 : Int32)), .val (.int (0 : Int32)), .unset] [(.int (0 : Int32))]))
  refine own_st (fun t k => XS.ifYes X4.here hx rfl (pc0 := 56) (pc' := 66) rfl (hb hby at_56) rfl (by decide) (by decide) (by decide) k) ?_
  show own_Fin p e below _ (T4.setTop (mkF m 66 #[.val (.int p0), .val (.int (2 : Int32)), .val (.ref w_WRITE), .val (.int (0 : Int32)), .val (.int (0 : Int32)), .val (.int (0 : Int32)), .unset] []))
  refine own_st (fun t k => XS.iconst X4.here hx rfl (hb hby at_66) k) ?_
  show own_Fin p e below _ (T4.setTop (mkF m 67 #[.val (.int p0), .val (.int (2 : Int32)), .val (.ref w_WRITE), .val (.int (0 : Int32)), .val (.int (0 : Int32)), .val (.int (0 : Int32)), .unset] [(.int (1 : Int32))]))
  refine own_st (fun t k => XS.goto X4.here hx rfl (pc0 := 67) (pc' := 71) rfl (hb hby at_67) (by decide) (by decide) k) ?_
  show own_Fin p e below _ (T4.setTop (mkF m 71 #[.val (.int p0), .val (.int (2 : Int32)), .val (.ref w_WRITE), .val (.int (0 : Int32)), .val (.int (0 : Int32)), .val (.int (0 : Int32)), .unset] [(.int (1 : Int32))]))
  refine own_st (fun t k => XS.istore X4.here hx rfl (hb hby at_71) rfl (l' := #[.val (.int p0), .val (.int (2 : Int32)), .val (.ref w_WRITE), .val (.int (0 : Int32)), .val (.int (0 : Int32)), .val (.int (0 : Int32)), .val (.int (1 : Int32))]) rfl k) ?_
  show own_Fin p e below _ (T4.setTop (mkF m 73 #[.val (.int p0), .val (.int (2 : Int32)), .val (.ref w_WRITE), .val (.int (0 : Int32)), .val (.int (0 : Int32)), .val (.int (0 : Int32)), .val (.int (1 : Int32))] []))
  refine own_st (fun t k => XS.iloadN X4.here hx rfl (hb hby at_73) rfl k) ?_
  show own_Fin p e below _ (T4.setTop (mkF m 74 #[.val (.int p0), .val (.int (2 : Int32)), .val (.ref w_WRITE), .val (.int (0 : Int32)), .val (.int (0 : Int32)), .val (.int (0 : Int32)), .val (.int (1 : Int32))] [(.int (0 : Int32))]))
  refine own_st (fun t k => XS.iload X4.here hx rfl (hb hby at_74) rfl k) ?_
  show own_Fin p e below _ (T4.setTop (mkF m 76 #[.val (.int p0), .val (.int (2 : Int32)), .val (.ref w_WRITE), .val (.int (0 : Int32)), .val (.int (0 : Int32)), .val (.int (0 : Int32)), .val (.int (1 : Int32))] [(.int (0 : Int32)), (.int (0 : Int32))]))
  refine own_st (fun t k => XS.icmpNo X4.here hx rfl (hb hby at_76) rfl (by decide) k) ?_
  show own_Fin p e below _ (T4.setTop (mkF m 79 #[.val (.int p0), .val (.int (2 : Int32)), .val (.ref w_WRITE), .val (.int (0 : Int32)), .val (.int (0 : Int32)), .val (.int (0 : Int32)), .val (.int (1 : Int32))] []))
  refine own_st (fun t k => XS.iloadN X4.here hx rfl (hb hby at_79) rfl k) ?_
  show own_Fin p e below _ (T4.setTop (mkF m 80 #[.val (.int p0), .val (.int (2 : Int32)), .val (.ref w_WRITE), .val (.int (0 : Int32)), .val (.int (0 : Int32)), .val (.int (0 : Int32)), .val (.int (1 : Int32))] [(.int (0 : Int32))]))
  refine own_st (fun t k => XS.iload X4.here hx rfl (hb hby at_80) rfl k) ?_
  show own_Fin p e below _ (T4.setTop (mkF m 82 #[.val (.int p0), .val (.int (2 : Int32)), .val (.ref w_WRITE), .val (.int (0 : Int32)), .val (.int (0 : Int32)), .val (.int (0 : Int32)), .val (.int (1 : Int32))] [(.int (0 : Int32)), (.int (0 : Int32))]))
  refine own_st (fun t k => XS.icmpNo X4.here hx rfl (hb hby at_82) rfl (by decide) k) ?_
  show own_Fin p e below _ (T4.setTop (mkF m 85 #[.val (.int p0), .val (.int (2 : Int32)), .val (.ref w_WRITE), .val (.int (0 : Int32)), .val (.int (0 : Int32)), .val (.int (0 : Int32)), .val (.int (1 : Int32))] []))
  refine own_st (fun t k => XS.iload X4.here hx rfl (hb hby at_85) rfl k) ?_
  show own_Fin p e below _ (T4.setTop (mkF m 87 #[.val (.int p0), .val (.int (2 : Int32)), .val (.ref w_WRITE), .val (.int (0 : Int32)), .val (.int (0 : Int32)), .val (.int (0 : Int32)), .val (.int (1 : Int32))] [(.int (1 : Int32))]))
  refine own_st (fun t k => XS.ifNo X4.here hx rfl (hb hby at_87) rfl (by decide) k) ?_
  show own_Fin p e below _ (T4.setTop (mkF m 90 #[.val (.int p0), .val (.int (2 : Int32)), .val (.ref w_WRITE), .val (.int (0 : Int32)), .val (.int (0 : Int32)), .val (.int (0 : Int32)), .val (.int (1 : Int32))] []))
  refine own_st (fun t k => XS.iconst X4.here hx rfl (hb hby at_90) k) ?_
  show own_Fin p e below _ (T4.setTop (mkF m 91 #[.val (.int p0), .val (.int (2 : Int32)), .val (.ref w_WRITE), .val (.int (0 : Int32)), .val (.int (0 : Int32)), .val (.int (0 : Int32)), .val (.int (1 : Int32))] [(.int (1 : Int32))]))
  refine own_st (fun t k => XS.goto X4.here hx rfl (pc0 := 91) (pc' := 95) rfl (hb hby at_91) (by decide) (by decide) k) ?_
  show own_Fin p e below _ (T4.setTop (mkF m 95 #[.val (.int p0), .val (.int (2 : Int32)), .val (.ref w_WRITE), .val (.int (0 : Int32)), .val (.int (0 : Int32)), .val (.int (0 : Int32)), .val (.int (1 : Int32))] [(.int (1 : Int32))]))
  obtain ⟨fs, hr, hrun, hended, hW, hsame⟩ := X4.leave (v := some (.int (1 : Int32))) (fun h => by rw [Bd.returns] at h; cases h)
  exact ⟨_, _, retN X4 hx (t := .boolean) Bd.returns (by simp) (hb hby at_95) hr, hrun, hended, _, _, rfl, ⟨rfl, N4, e4⟩, ⟨_, rfl⟩, hW, hsame.mono (by decide) (by decide)⟩
theorem d1_26 : decode method_2_code 26 = .ok (.iload_n 0, 1) := by decide +kernel
theorem d1_27 : decode method_2_code 27 = .ok (.iconst 3, 1) := by decide +kernel
theorem d1_28 : decode method_2_code 28 = .ok (.if_icmp .ne 7, 3) := by decide +kernel
theorem d1_31 : decode method_2_code 31 = .ok (.getstatic 19, 3) := by decide +kernel
theorem d1_34 : decode method_2_code 34 = .ok (.areturn, 1) := by decide +kernel
set_option maxRecDepth 65536 in
set_option maxHeartbeats 40000000 in
theorem rm1_3 (l : Launch) (Z : State) (a0 : Array Value) (hw : ∀ d ∈ tables_1, d.before a0 Z = true) (ws : List Jvm.Cond) (w_PATH w_STATUS w_COMMIT w_RANGE w_WRITE w_READ : Addr) (h0 : Heap) (n0 : Nat) (PN : own_Pins Z h0 w_PATH w_STATUS w_COMMIT w_RANGE w_WRITE w_READ) :
    MetFree l (⟨"com/example/uni_lock/unilock/cli/CommandTakesSharedPinLaw", "pick", "(I)Lcom/example/uni_lock/unilock/cli/Command;"⟩ : MethodName) (head1 (Jvm.Cond.code (⟨"com/example/uni_lock/unilock/cli/CommandTakesSharedPinLaw", "pick", "(I)Lcom/example/uni_lock/unilock/cli/Command;"⟩ : MethodName) method_2_code 1 (some (.object "com/example/uni_lock/unilock/cli/Command")) :: ws) ({ frames := 0, cells := 0, slots := 0, locals := 0 } : Room)) (fun a U => a = #[(.int (3 : Int32))] ∧ Z.Warmed39 U.vm ∧ U.heap = h0) (fun _ _ _ _ _ => True) (fun _ U o U' => ∃ v L, o = .returned v ∧ own_Q h0 n0 (some (.ref w_COMMIT)) v U'.heap L ∧ FrameEnd U o U' L ({ frames := 0, cells := 0, slots := 0, locals := 0 } : Room).cells ({ frames := 0, cells := 0, slots := 0, locals := 0 } : Room).slots) := by
  obtain ⟨S_PATH, E_PATH, S_STATUS, E_STATUS, S_COMMIT, E_COMMIT, S_RANGE, E_RANGE, S_WRITE, E_WRITE, S_READ, E_READ, F_PATH_ordinal, F_STATUS_ordinal, F_COMMIT_ordinal, F_RANGE_ordinal, F_WRITE_ordinal, F_READ_ordinal⟩ := PN
  refine MetFree.of_bodySF (plainFor_of_name pn_com_example_uni_lock_unilock_cli_CommandTakesSharedPinLaw) hisR ?_
  intro p e s m args below meth c s₁ Bd hml0 hP hK
  obtain ⟨rfl, hZ, hh⟩ := hP
  have hx := Bd.exec
  have hby := Bd.bytes
  have hml : c.maxLocals = 1 := hml0
  have hown : s.vm.findClass "com/example/uni_lock/unilock/cli/CommandTakesSharedPinLaw" = some m.cls := findClass_of_methodNamed Bd.named
  have X0 : Stand p l e ({ frames := 0, cells := 0, slots := 0, locals := 0 } : Room) s m #[(.int (3 : Int32))] below meth c s₁ [] 0 0 := Stand.of_body Bd
  have e0 : s₁.heap = h0 := by rw [← hh, Bd.state]; rfl
  have N0 := Fr.nil n0
  refine (?_ : own_Fin p e below _ _)
  refine own_st (fun t k => castTop (ef_1_I m (3 : Int32)) k) ?_
  show own_Fin p e below _ (s₁.setTop (mkF m 0 #[.val (.int (3 : Int32))] []))
  refine own_st (fun t k => XS.iloadN X0.here hx rfl (hb hby d1_0) rfl k) ?_
  show own_Fin p e below _ (s₁.setTop (mkF m 1 #[.val (.int (3 : Int32))] [(.int (3 : Int32))]))
  refine own_st (fun t k => XS.ifYes X0.here hx rfl (pc0 := 1) (pc' := 8) rfl (hb hby d1_1) rfl (by decide) (by decide) (by decide) k) ?_
  show own_Fin p e below _ (s₁.setTop (mkF m 8 #[.val (.int (3 : Int32))] []))
  refine own_st (fun t k => XS.iloadN X0.here hx rfl (hb hby d1_8) rfl k) ?_
  show own_Fin p e below _ (s₁.setTop (mkF m 9 #[.val (.int (3 : Int32))] [(.int (3 : Int32))]))
  refine own_st (fun t k => XS.iconst X0.here hx rfl (hb hby d1_9) k) ?_
  show own_Fin p e below _ (s₁.setTop (mkF m 10 #[.val (.int (3 : Int32))] [(.int (1 : Int32)), (.int (3 : Int32))]))
  refine own_st (fun t k => XS.icmpYes X0.here hx rfl (pc0 := 10) (pc' := 17) rfl (hb hby d1_10) rfl (by decide) (by decide) (by decide) k) ?_
  show own_Fin p e below _ (s₁.setTop (mkF m 17 #[.val (.int (3 : Int32))] []))
  refine own_st (fun t k => XS.iloadN X0.here hx rfl (hb hby d1_17) rfl k) ?_
  show own_Fin p e below _ (s₁.setTop (mkF m 18 #[.val (.int (3 : Int32))] [(.int (3 : Int32))]))
  refine own_st (fun t k => XS.iconst X0.here hx rfl (hb hby d1_18) k) ?_
  show own_Fin p e below _ (s₁.setTop (mkF m 19 #[.val (.int (3 : Int32))] [(.int (2 : Int32)), (.int (3 : Int32))]))
  refine own_st (fun t k => XS.icmpYes X0.here hx rfl (pc0 := 19) (pc' := 26) rfl (hb hby d1_19) rfl (by decide) (by decide) (by decide) k) ?_
  show own_Fin p e below _ (s₁.setTop (mkF m 26 #[.val (.int (3 : Int32))] []))
  refine own_st (fun t k => XS.iloadN X0.here hx rfl (hb hby d1_26) rfl k) ?_
  show own_Fin p e below _ (s₁.setTop (mkF m 27 #[.val (.int (3 : Int32))] [(.int (3 : Int32))]))
  refine own_st (fun t k => XS.iconst X0.here hx rfl (hb hby d1_27) k) ?_
  show own_Fin p e below _ (s₁.setTop (mkF m 28 #[.val (.int (3 : Int32))] [(.int (3 : Int32)), (.int (3 : Int32))]))
  refine own_st (fun t k => XS.icmpNo X0.here hx rfl (hb hby d1_28) rfl (by decide) k) ?_
  show own_Fin p e below _ (s₁.setTop (mkF m 31 #[.val (.int (3 : Int32))] []))
  obtain ⟨T1, X1, e1, st1⟩ := getS2 X0 hx hZ hown (host := "") (Or.inl (hw _ (List.mem_of_getElem? (i := 26) rfl))) Via.refl e0 S_COMMIT (g := (mkF m 31 #[.val (.int (3 : Int32))] [])) rfl (hb hby d1_31)
  refine own_st st1 ?_
  show own_Fin p e below _ (T1.setTop (mkF m 34 #[.val (.int (3 : Int32))] [(.ref w_COMMIT)]))
  obtain ⟨fs, hr, hrun, hended, hW, hsame⟩ := X1.leave (v := some (.ref w_COMMIT)) (fun h => by rw [Bd.returns] at h; cases h)
  exact ⟨_, _, retOut X1 hx (t := (.object "com/example/uni_lock/unilock/cli/Command")) Bd.returns rfl (Or.inr (Or.inr (Or.inr (Or.inr ⟨rfl, rfl, rfl⟩)))) (hb hby d1_34) hr, hrun, hended, _, _, rfl, ⟨rfl, N0, e1⟩, ⟨_, rfl⟩, hW, hsame.mono (by decide) (by decide)⟩
set_option maxRecDepth 65536 in
set_option maxHeartbeats 40000000 in
theorem rm2_w_COMMIT (l : Launch) (Z : State) (a0 : Array Value) (hw : ∀ d ∈ tables_1, d.before a0 Z = true) (ws : List Jvm.Cond) (w_PATH w_STATUS w_COMMIT w_RANGE w_WRITE w_READ : Addr) (h0 : Heap) (n0 : Nat) (PN : own_Pins Z h0 w_PATH w_STATUS w_COMMIT w_RANGE w_WRITE w_READ) :
    MetFree l (⟨"com/example/uni_lock/unilock/cli/Command", "takesShared", "()Z"⟩ : MethodName) (head1 (Jvm.Cond.code (⟨"com/example/uni_lock/unilock/cli/Command", "takesShared", "()Z"⟩ : MethodName) prog_1_method_7_code 1 (some .boolean) :: ws) ({ frames := 0, cells := 0, slots := 0, locals := 0 } : Room)) (fun a U => a = #[(.ref w_COMMIT)] ∧ Z.Warmed39 U.vm ∧ U.heap = h0) (fun _ _ _ _ _ => True) (fun _ U o U' => ∃ v L, o = .returned v ∧ own_Q h0 n0 (some (.int (0 : Int32))) v U'.heap L ∧ FrameEnd U o U' L ({ frames := 0, cells := 0, slots := 0, locals := 0 } : Room).cells ({ frames := 0, cells := 0, slots := 0, locals := 0 } : Room).slots) := by
  obtain ⟨S_PATH, E_PATH, S_STATUS, E_STATUS, S_COMMIT, E_COMMIT, S_RANGE, E_RANGE, S_WRITE, E_WRITE, S_READ, E_READ, F_PATH_ordinal, F_STATUS_ordinal, F_COMMIT_ordinal, F_RANGE_ordinal, F_WRITE_ordinal, F_READ_ordinal⟩ := PN
  refine MetFree.of_bodySF (plainFor_of_name pn_com_example_uni_lock_unilock_cli_Command) hisR ?_
  intro p e s m args below meth c s₁ Bd hml0 hP hK
  obtain ⟨rfl, hZ, hh⟩ := hP
  have hx := Bd.exec
  have hby := Bd.bytes
  have hml : c.maxLocals = 1 := hml0
  have hown : s.vm.findClass "com/example/uni_lock/unilock/cli/Command" = some m.cls := findClass_of_methodNamed Bd.named
  have X0 : Stand p l e ({ frames := 0, cells := 0, slots := 0, locals := 0 } : Room) s m #[(.ref w_COMMIT)] below meth c s₁ [] 0 0 := Stand.of_body Bd
  have e0 : s₁.heap = h0 := by rw [← hh, Bd.state]; rfl
  have N0 := Fr.nil n0
  refine (?_ : own_Fin p e below _ _)
  refine own_st (fun t k => castTop (ef_2_R m w_COMMIT) k) ?_
  show own_Fin p e below _ (s₁.setTop (mkF m 0 #[.val (.ref w_COMMIT)] []))
  refine own_st (fun t k => XS.aloadN X0.here hx rfl (hb hby d2_0) rfl rfl k) ?_
  show own_Fin p e below _ (s₁.setTop (mkF m 1 #[.val (.ref w_COMMIT)] [(.ref w_COMMIT)]))
  obtain ⟨T1, X1, e1, st1⟩ := getS2 X0 hx hZ hown (host := "") (Or.inl (hw _ (List.mem_of_getElem? (i := 13) rfl))) Via.refl e0 S_PATH (g := (mkF m 1 #[.val (.ref w_COMMIT)] [(.ref w_COMMIT)])) rfl (hb hby d2_1)
  refine own_st st1 ?_
  show own_Fin p e below _ (T1.setTop (mkF m 4 #[.val (.ref w_COMMIT)] [(.ref w_PATH), (.ref w_COMMIT)]))
  refine own_st (fun t k => Jvm.RoadKit.acmp (g := (mkF m 4 #[.val (.ref w_COMMIT)] [(.ref w_PATH), (.ref w_COMMIT)])) X1 hx rfl rfl rfl (pc0 := 4) (pc' := 7) (same := false) rfl (hb hby d2_4) rfl (decide_eq_false fun q => (Fld.ne F_COMMIT_ordinal F_PATH_ordinal (by simp)) (Value.ref.inj q)) (by decide) (by decide) k) ?_
  show own_Fin p e below _ (T1.setTop (mkF m 7 #[.val (.ref w_COMMIT)] []))
  refine own_st (fun t k => XS.aloadN X1.here hx rfl (hb hby d2_7) rfl rfl k) ?_
  show own_Fin p e below _ (T1.setTop (mkF m 8 #[.val (.ref w_COMMIT)] [(.ref w_COMMIT)]))
  obtain ⟨T2, X2, e2, st2⟩ := getS2 X1 hx hZ hown (host := "") (Or.inl (hw _ (List.mem_of_getElem? (i := 28) rfl))) Via.refl e1 S_RANGE (g := (mkF m 8 #[.val (.ref w_COMMIT)] [(.ref w_COMMIT)])) rfl (hb hby d2_8)
  refine own_st st2 ?_
  show own_Fin p e below _ (T2.setTop (mkF m 11 #[.val (.ref w_COMMIT)] [(.ref w_RANGE), (.ref w_COMMIT)]))
  refine own_st (fun t k => Jvm.RoadKit.acmp (g := (mkF m 11 #[.val (.ref w_COMMIT)] [(.ref w_RANGE), (.ref w_COMMIT)])) X2 hx rfl rfl rfl (pc0 := 11) (pc' := 18) (same := false) rfl (hb hby d2_11) rfl (decide_eq_false fun q => (Fld.ne F_COMMIT_ordinal F_RANGE_ordinal (by simp)) (Value.ref.inj q)) (by decide) (by decide) k) ?_
  show own_Fin p e below _ (T2.setTop (mkF m 18 #[.val (.ref w_COMMIT)] []))
  refine own_st (fun t k => XS.iconst X2.here hx rfl (hb hby d2_18) k) ?_
  show own_Fin p e below _ (T2.setTop (mkF m 19 #[.val (.ref w_COMMIT)] [(.int (0 : Int32))]))
  obtain ⟨fs, hr, hrun, hended, hW, hsame⟩ := X2.leave (v := some (.int (0 : Int32))) (fun h => by rw [Bd.returns] at h; cases h)
  exact ⟨_, _, retN X2 hx (t := .boolean) Bd.returns (by simp) (hb hby d2_19) hr, hrun, hended, _, _, rfl, ⟨rfl, N0, e2⟩, ⟨_, rfl⟩, hW, hsame.mono (by decide) (by decide)⟩
set_option maxRecDepth 65536 in
set_option maxHeartbeats 40000000 in
theorem rm3_w_COMMIT (l : Launch) (Z : State) (a0 : Array Value) (hw : ∀ d ∈ tables_1, d.before a0 Z = true) (ws : List Jvm.Cond) (w_PATH w_STATUS w_COMMIT w_RANGE w_WRITE w_READ : Addr) (h0 : Heap) (n0 : Nat) (PN : own_Pins Z h0 w_PATH w_STATUS w_COMMIT w_RANGE w_WRITE w_READ) :
    MetFree l (⟨"com/example/uni_lock/unilock/cli/Command", "takesDelete", "()Z"⟩ : MethodName) (head1 (Jvm.Cond.code (⟨"com/example/uni_lock/unilock/cli/Command", "takesDelete", "()Z"⟩ : MethodName) prog_1_method_8_code 1 (some .boolean) :: ws) ({ frames := 0, cells := 0, slots := 0, locals := 0 } : Room)) (fun a U => a = #[(.ref w_COMMIT)] ∧ Z.Warmed39 U.vm ∧ U.heap = h0) (fun _ _ _ _ _ => True) (fun _ U o U' => ∃ v L, o = .returned v ∧ own_Q h0 n0 (some (.int (0 : Int32))) v U'.heap L ∧ FrameEnd U o U' L ({ frames := 0, cells := 0, slots := 0, locals := 0 } : Room).cells ({ frames := 0, cells := 0, slots := 0, locals := 0 } : Room).slots) := by
  obtain ⟨S_PATH, E_PATH, S_STATUS, E_STATUS, S_COMMIT, E_COMMIT, S_RANGE, E_RANGE, S_WRITE, E_WRITE, S_READ, E_READ, F_PATH_ordinal, F_STATUS_ordinal, F_COMMIT_ordinal, F_RANGE_ordinal, F_WRITE_ordinal, F_READ_ordinal⟩ := PN
  refine MetFree.of_bodySF (plainFor_of_name pn_com_example_uni_lock_unilock_cli_Command) hisR ?_
  intro p e s m args below meth c s₁ Bd hml0 hP hK
  obtain ⟨rfl, hZ, hh⟩ := hP
  have hx := Bd.exec
  have hby := Bd.bytes
  have hml : c.maxLocals = 1 := hml0
  have hown : s.vm.findClass "com/example/uni_lock/unilock/cli/Command" = some m.cls := findClass_of_methodNamed Bd.named
  have X0 : Stand p l e ({ frames := 0, cells := 0, slots := 0, locals := 0 } : Room) s m #[(.ref w_COMMIT)] below meth c s₁ [] 0 0 := Stand.of_body Bd
  have e0 : s₁.heap = h0 := by rw [← hh, Bd.state]; rfl
  have N0 := Fr.nil n0
  refine (?_ : own_Fin p e below _ _)
  refine own_st (fun t k => castTop (ef_3_R m w_COMMIT) k) ?_
  show own_Fin p e below _ (s₁.setTop (mkF m 0 #[.val (.ref w_COMMIT)] []))
  refine own_st (fun t k => XS.aloadN X0.here hx rfl (hb hby d3_0) rfl rfl k) ?_
  show own_Fin p e below _ (s₁.setTop (mkF m 1 #[.val (.ref w_COMMIT)] [(.ref w_COMMIT)]))
  obtain ⟨T1, X1, e1, st1⟩ := getS2 X0 hx hZ hown (host := "") (Or.inl (hw _ (List.mem_of_getElem? (i := 13) rfl))) Via.refl e0 S_PATH (g := (mkF m 1 #[.val (.ref w_COMMIT)] [(.ref w_COMMIT)])) rfl (hb hby d3_1)
  refine own_st st1 ?_
  show own_Fin p e below _ (T1.setTop (mkF m 4 #[.val (.ref w_COMMIT)] [(.ref w_PATH), (.ref w_COMMIT)]))
  refine own_st (fun t k => Jvm.RoadKit.acmp (g := (mkF m 4 #[.val (.ref w_COMMIT)] [(.ref w_PATH), (.ref w_COMMIT)])) X1 hx rfl rfl rfl (pc0 := 4) (pc' := 11) (same := false) rfl (hb hby d3_4) rfl (decide_eq_false fun q => (Fld.ne F_COMMIT_ordinal F_PATH_ordinal (by simp)) (Value.ref.inj q)) (by decide) (by decide) k) ?_
  show own_Fin p e below _ (T1.setTop (mkF m 11 #[.val (.ref w_COMMIT)] []))
  refine own_st (fun t k => XS.iconst X1.here hx rfl (hb hby d3_11) k) ?_
  show own_Fin p e below _ (T1.setTop (mkF m 12 #[.val (.ref w_COMMIT)] [(.int (0 : Int32))]))
  obtain ⟨fs, hr, hrun, hended, hW, hsame⟩ := X1.leave (v := some (.int (0 : Int32))) (fun h => by rw [Bd.returns] at h; cases h)
  exact ⟨_, _, retN X1 hx (t := .boolean) Bd.returns (by simp) (hb hby d3_12) hr, hrun, hended, _, _, rfl, ⟨rfl, N0, e1⟩, ⟨_, rfl⟩, hW, hsame.mono (by decide) (by decide)⟩
set_option maxRecDepth 65536 in
set_option maxHeartbeats 40000000 in
theorem rm5_w_COMMIT (l : Launch) (Z : State) (a0 : Array Value) (hw : ∀ d ∈ tables_1, d.before a0 Z = true) (ws : List Jvm.Cond) (w_PATH w_STATUS w_COMMIT w_RANGE w_WRITE w_READ : Addr) (h0 : Heap) (n0 : Nat) (PN : own_Pins Z h0 w_PATH w_STATUS w_COMMIT w_RANGE w_WRITE w_READ) :
    MetFree l (⟨"com/example/uni_lock/unilock/cli/Command", "takesRange", "()Z"⟩ : MethodName) (head1 (Jvm.Cond.code (⟨"com/example/uni_lock/unilock/cli/Command", "takesRange", "()Z"⟩ : MethodName) prog_1_method_9_code 1 (some .boolean) :: ws) ({ frames := 0, cells := 0, slots := 0, locals := 0 } : Room)) (fun a U => a = #[(.ref w_COMMIT)] ∧ Z.Warmed39 U.vm ∧ U.heap = h0) (fun _ _ _ _ _ => True) (fun _ U o U' => ∃ v L, o = .returned v ∧ own_Q h0 n0 (some (.int (0 : Int32))) v U'.heap L ∧ FrameEnd U o U' L ({ frames := 0, cells := 0, slots := 0, locals := 0 } : Room).cells ({ frames := 0, cells := 0, slots := 0, locals := 0 } : Room).slots) := by
  obtain ⟨S_PATH, E_PATH, S_STATUS, E_STATUS, S_COMMIT, E_COMMIT, S_RANGE, E_RANGE, S_WRITE, E_WRITE, S_READ, E_READ, F_PATH_ordinal, F_STATUS_ordinal, F_COMMIT_ordinal, F_RANGE_ordinal, F_WRITE_ordinal, F_READ_ordinal⟩ := PN
  refine MetFree.of_bodySF (plainFor_of_name pn_com_example_uni_lock_unilock_cli_Command) hisR ?_
  intro p e s m args below meth c s₁ Bd hml0 hP hK
  obtain ⟨rfl, hZ, hh⟩ := hP
  have hx := Bd.exec
  have hby := Bd.bytes
  have hml : c.maxLocals = 1 := hml0
  have hown : s.vm.findClass "com/example/uni_lock/unilock/cli/Command" = some m.cls := findClass_of_methodNamed Bd.named
  have X0 : Stand p l e ({ frames := 0, cells := 0, slots := 0, locals := 0 } : Room) s m #[(.ref w_COMMIT)] below meth c s₁ [] 0 0 := Stand.of_body Bd
  have e0 : s₁.heap = h0 := by rw [← hh, Bd.state]; rfl
  have N0 := Fr.nil n0
  refine (?_ : own_Fin p e below _ _)
  refine own_st (fun t k => castTop (ef_5_R m w_COMMIT) k) ?_
  show own_Fin p e below _ (s₁.setTop (mkF m 0 #[.val (.ref w_COMMIT)] []))
  refine own_st (fun t k => XS.aloadN X0.here hx rfl (hb hby d5_0) rfl rfl k) ?_
  show own_Fin p e below _ (s₁.setTop (mkF m 1 #[.val (.ref w_COMMIT)] [(.ref w_COMMIT)]))
  obtain ⟨T1, X1, e1, st1⟩ := getS2 X0 hx hZ hown (host := "") (Or.inl (hw _ (List.mem_of_getElem? (i := 28) rfl))) Via.refl e0 S_RANGE (g := (mkF m 1 #[.val (.ref w_COMMIT)] [(.ref w_COMMIT)])) rfl (hb hby d5_1)
  refine own_st st1 ?_
  show own_Fin p e below _ (T1.setTop (mkF m 4 #[.val (.ref w_COMMIT)] [(.ref w_RANGE), (.ref w_COMMIT)]))
  refine own_st (fun t k => Jvm.RoadKit.acmp (g := (mkF m 4 #[.val (.ref w_COMMIT)] [(.ref w_RANGE), (.ref w_COMMIT)])) X1 hx rfl rfl rfl (pc0 := 4) (pc' := 11) (same := false) rfl (hb hby d5_4) rfl (decide_eq_false fun q => (Fld.ne F_COMMIT_ordinal F_RANGE_ordinal (by simp)) (Value.ref.inj q)) (by decide) (by decide) k) ?_
  show own_Fin p e below _ (T1.setTop (mkF m 11 #[.val (.ref w_COMMIT)] []))
  refine own_st (fun t k => XS.iconst X1.here hx rfl (hb hby d5_11) k) ?_
  show own_Fin p e below _ (T1.setTop (mkF m 12 #[.val (.ref w_COMMIT)] [(.int (0 : Int32))]))
  obtain ⟨fs, hr, hrun, hended, hW, hsame⟩ := X1.leave (v := some (.int (0 : Int32))) (fun h => by rw [Bd.returns] at h; cases h)
  exact ⟨_, _, retN X1 hx (t := .boolean) Bd.returns (by simp) (hb hby d5_12) hr, hrun, hended, _, _, rfl, ⟨rfl, N0, e1⟩, ⟨_, rfl⟩, hW, hsame.mono (by decide) (by decide)⟩
set_option maxRecDepth 65536 in
set_option maxHeartbeats 40000000 in
theorem rm0_c3 (l : Launch) (Z : State) (a0 : Array Value) (hw : ∀ d ∈ tables_1, d.before a0 Z = true) (ws : List Jvm.Cond) (w_PATH w_STATUS w_COMMIT w_RANGE w_WRITE w_READ : Addr) (p0 : Int32) (h0 : Heap) (n0 : Nat) (PN : own_Pins Z h0 w_PATH w_STATUS w_COMMIT w_RANGE w_WRITE w_READ) (q0 : ((p0 &&& (2147483647 : Int32)) % (6 : Int32)) = (3 : Int32)) :
    MetFree l x (head1 (Jvm.Cond.code x code maxLocals ret :: ws) room_1) (fun a U => a = #[(.int p0)] ∧ Z.Warmed39 U.vm ∧ U.heap = h0) (fun _ _ _ _ _ => True) (fun _ U o U' => ∃ v L, o = .returned v ∧ own_Q h0 n0 (some (.int (1 : Int32))) v U'.heap L ∧ FrameEnd U o U' L room_1.cells room_1.slots) := by
  obtain ⟨S_PATH, E_PATH, S_STATUS, E_STATUS, S_COMMIT, E_COMMIT, S_RANGE, E_RANGE, S_WRITE, E_WRITE, S_READ, E_READ, F_PATH_ordinal, F_STATUS_ordinal, F_COMMIT_ordinal, F_RANGE_ordinal, F_WRITE_ordinal, F_READ_ordinal⟩ := PN
  refine MetFree.of_bodySF (plainFor_of_name pn_com_example_uni_lock_unilock_cli_CommandTakesSharedPinLaw) hisR ?_
  intro p e s m args below meth c s₁ Bd hml0 hP hK
  obtain ⟨rfl, hZ, hh⟩ := hP
  have hx := Bd.exec
  have hby := Bd.bytes
  have hml : c.maxLocals = 7 := hml0
  have hown : s.vm.findClass "com/example/uni_lock/unilock/cli/CommandTakesSharedPinLaw" = some m.cls := findClass_of_methodNamed Bd.named
  have X0 : Stand p l e room_1 s m #[(.int p0)] below meth c s₁ [] 0 0 := Stand.of_body Bd
  have e0 : s₁.heap = h0 := by rw [← hh, Bd.state]; rfl
  have N0 := Fr.nil n0
  refine (?_ : own_Fin p e below _ _)
  refine own_st (fun t k => castTop (ef_0_I m p0) k) ?_
  show own_Fin p e below _ (s₁.setTop (mkF m 0 #[.val (.int p0), .unset, .unset, .unset, .unset, .unset, .unset] []))
  refine own_st (fun t k => XS.iloadN X0.here hx rfl (hb hby at_0) rfl k) ?_
  show own_Fin p e below _ (s₁.setTop (mkF m 1 #[.val (.int p0), .unset, .unset, .unset, .unset, .unset, .unset] [(.int p0)]))
  refine own_st (fun t k => X0.ldcI hx hown (mvT hZ (hw _ (List.mem_of_getElem? (i := 0) rfl))) rfl (hb hby at_1) k) ?_
  show own_Fin p e below _ (s₁.setTop (mkF m 3 #[.val (.int p0), .unset, .unset, .unset, .unset, .unset, .unset] [(.int (2147483647 : Int32)), (.int p0)]))
  refine own_st (fun t k => XS.iand X0.here hx rfl (hb hby at_3) rfl k) ?_
  show own_Fin p e below _ (s₁.setTop (mkF m 4 #[.val (.int p0), .unset, .unset, .unset, .unset, .unset, .unset] [(.int (p0 &&& (2147483647 : Int32)))]))
  refine own_st (fun t k => XS.bipush X0.here hx rfl (hb hby at_4) k) ?_
  show own_Fin p e below _ (s₁.setTop (mkF m 6 #[.val (.int p0), .unset, .unset, .unset, .unset, .unset, .unset] [(.int (6 : Int32)), (.int (p0 &&& (2147483647 : Int32)))]))
  refine own_st (fun t k => iremM X0 hx rfl (hb hby at_6) rfl (by decide) k) ?_
  show own_Fin p e below _ (s₁.setTop (mkF m 7 #[.val (.int p0), .unset, .unset, .unset, .unset, .unset, .unset] [(.int ((p0 &&& (2147483647 : Int32)) % (6 : Int32)))]))
  rw [q0]
  show own_Fin p e below _ (s₁.setTop (mkF m 7 #[.val (.int p0), .unset, .unset, .unset, .unset, .unset, .unset] [(.int (3 : Int32))]))
  refine own_st (fun t k => XS.istoreN X0.here hx rfl (hb hby at_7) rfl (l' := #[.val (.int p0), .val (.int (3 : Int32)), .unset, .unset, .unset, .unset, .unset]) rfl k) ?_
  show own_Fin p e below _ (s₁.setTop (mkF m 8 #[.val (.int p0), .val (.int (3 : Int32)), .unset, .unset, .unset, .unset, .unset] []))
  refine own_st (fun t k => XS.iloadN X0.here hx rfl (hb hby at_8) rfl k) ?_
  show own_Fin p e below _ (s₁.setTop (mkF m 9 #[.val (.int p0), .val (.int (3 : Int32)), .unset, .unset, .unset, .unset, .unset] [(.int (3 : Int32))]))
  obtain ⟨_, _, ⟨T1, L1, k1, n1⟩, -, X1, ⟨Lc1, hQ1, l1, y1, z1⟩, st1⟩ := Jvm.LawKit.callS X0 hx (y := (⟨"com/example/uni_lock/unilock/cli/CommandTakesSharedPinLaw", "pick", "(I)Lcom/example/uni_lock/unilock/cli/Command;"⟩ : MethodName)) hown (mvT hZ (hw _ (List.mem_of_getElem? (i := 1) rfl))) (mvT hZ (hw _ (List.mem_of_getElem? (i := 2) rfl))) (mvT hZ (hw _ (List.mem_of_getElem? (i := 3) rfl))) (mvT hZ (hw _ (List.mem_of_getElem? (i := 4) rfl))) (by decide) (backOf (W := 0) (rm1_3 l Z a0 hw [] w_PATH w_STATUS w_COMMIT w_RANGE w_WRITE w_READ h0 n0 (by exact ⟨S_PATH, E_PATH, S_STATUS, E_STATUS, S_COMMIT, E_COMMIT, S_RANGE, E_RANGE, S_WRITE, E_WRITE, S_READ, E_READ, F_PATH_ordinal, F_STATUS_ordinal, F_COMMIT_ordinal, F_RANGE_ordinal, F_WRITE_ordinal, F_READ_ordinal⟩)) hZ (hw _ (List.mem_of_getElem? (i := 4) rfl)) (hw _ (List.mem_of_getElem? (i := 3) rfl)) (by decide) (by decide)) (g := (mkF m 9 #[.val (.int p0), .val (.int (3 : Int32)), .unset, .unset, .unset, .unset, .unset] [(.int (3 : Int32))])) rfl (by rw [hml]; rfl) (argsL := [(.int (3 : Int32))]) (rest := []) (lenOf pd__I_Lcom_example_uni_lock_unilock_cli_Command_ rfl) rfl (by show 2 * 0 + _ ≤ _; exact Nat.le_of_eq rfl) (hb hby at_9) (fun _ _ => ⟨rfl, e0, (by decide : 0 + 0 ≤ _), (by decide : 0 + 0 ≤ _)⟩)
  dsimp only [Pt.U, Pt.locs, Pt.cells, Pt.slots] at X1 l1 y1 z1 st1 hQ1
  subst l1 y1 z1
  obtain ⟨rfl, N1q, e1⟩ := hQ1
  have N1 := Fr.app N0 N1q
  refine own_st st1 ?_
  show own_Fin p e below _ (T1.setTop (mkF m 12 #[.val (.int p0), .val (.int (3 : Int32)), .unset, .unset, .unset, .unset, .unset] [(.ref w_COMMIT)]))
  refine own_st (fun t k => XS.astoreN X1.here hx rfl (hb hby at_12) rfl rfl (l' := #[.val (.int p0), .val (.int (3 : Int32)), .val (.ref w_COMMIT), .unset, .unset, .unset, .unset]) rfl k) ?_
  show own_Fin p e below _ (T1.setTop (mkF m 13 #[.val (.int p0), .val (.int (3 : Int32)), .val (.ref w_COMMIT), .unset, .unset, .unset, .unset] []))
  refine own_st (fun t k => XS.aloadN X1.here hx rfl (hb hby at_13) rfl rfl k) ?_
  show own_Fin p e below _ (T1.setTop (mkF m 14 #[.val (.int p0), .val (.int (3 : Int32)), .val (.ref w_COMMIT), .unset, .unset, .unset, .unset] [(.ref w_COMMIT)]))
  obtain ⟨cq2, kq2, q2a, q2b, q2c⟩ := isOf hZ e1 E_COMMIT
  obtain ⟨_, _, ⟨T2, L2, k2, n2⟩, -, X2, ⟨Lc2, hQ2, l2, y2, z2⟩, st2⟩ := X1.virtualBack hx (y := (⟨"com/example/uni_lock/unilock/cli/Command", "takesShared", "()Z"⟩ : MethodName)) (z := (⟨"com/example/uni_lock/unilock/cli/Command", "takesShared", "()Z"⟩ : MethodName)) hown (mvT hZ (hw _ (List.mem_of_getElem? (i := 8) rfl))) (mvT hZ (hw _ (List.mem_of_getElem? (i := 9) rfl))) (notFace_of_selects (args := #[]) (mvT hZ (hw _ (List.mem_of_getElem? (i := 11) rfl)))) (mvT hZ (hw _ (List.mem_of_getElem? (i := 11) rfl))) (mvT hZ (hw _ (List.mem_of_getElem? (i := 10) rfl))) (by decide) (backOf (W := 0) (rm2_w_COMMIT l Z a0 hw [] w_PATH w_STATUS w_COMMIT w_RANGE w_WRITE w_READ h0 n0 (by exact ⟨S_PATH, E_PATH, S_STATUS, E_STATUS, S_COMMIT, E_COMMIT, S_RANGE, E_RANGE, S_WRITE, E_WRITE, S_READ, E_READ, F_PATH_ordinal, F_STATUS_ordinal, F_COMMIT_ordinal, F_RANGE_ordinal, F_WRITE_ordinal, F_READ_ordinal⟩)) hZ (hw _ (List.mem_of_getElem? (i := 12) rfl)) (hw _ (List.mem_of_getElem? (i := 6) rfl)) (by decide) (by decide)) q2a q2c (g := (mkF m 14 #[.val (.int p0), .val (.int (3 : Int32)), .val (.ref w_COMMIT), .unset, .unset, .unset, .unset] [(.ref w_COMMIT)])) rfl (by rw [hml]; rfl) (Steps.refl _) (argsL := []) (rest := []) (lenOf pd___Z rfl) rfl (by show 2 * 0 + _ ≤ _; exact Nat.le_of_eq rfl) (hb hby at_14) (fun _ _ => ⟨rfl, e1, (by decide : 0 + 0 ≤ _), (by decide : 0 + 0 ≤ _)⟩)
  dsimp only [Pt.U, Pt.locs, Pt.cells, Pt.slots] at X2 l2 y2 z2 st2 hQ2
  subst l2 y2 z2
  obtain ⟨rfl, N2q, e2⟩ := hQ2
  have N2 := Fr.app N1 N2q
  refine own_tr st2 ?_
  show own_Fin p e below _ (T2.setTop (mkF m 17 #[.val (.int p0), .val (.int (3 : Int32)), .val (.ref w_COMMIT), .unset, .unset, .unset, .unset] [(.int (0 : Int32))]))
  refine own_st (fun t k => XS.istoreN X2.here hx rfl (hb hby at_17) rfl (l' := #[.val (.int p0), .val (.int (3 : Int32)), .val (.ref w_COMMIT), .val (.int (0 : Int32)), .unset, .unset, .unset]) rfl k) ?_
  show own_Fin p e below _ (T2.setTop (mkF m 18 #[.val (.int p0), .val (.int (3 : Int32)), .val (.ref w_COMMIT), .val (.int (0 : Int32)), .unset, .unset, .unset] []))
  refine own_st (fun t k => XS.iloadN X2.here hx rfl (hb hby at_18) rfl k) ?_
  show own_Fin p e below _ (T2.setTop (mkF m 19 #[.val (.int p0), .val (.int (3 : Int32)), .val (.ref w_COMMIT), .val (.int (0 : Int32)), .unset, .unset, .unset] [(.int (3 : Int32))]))
  refine own_st (fun t k => XS.ifNo X2.here hx rfl (hb hby at_19) rfl (by decide) k) ?_
  show own_Fin p e below _ (T2.setTop (mkF m 22 #[.val (.int p0), .val (.int (3 : Int32)), .val (.ref w_COMMIT), .val (.int (0 : Int32)), .unset, .unset, .unset] []))
  refine own_st (fun t k => XS.iloadN X2.here hx rfl (hb hby at_22) rfl k) ?_
  show own_Fin p e below _ (T2.setTop (mkF m 23 #[.val (.int p0), .val (.int (3 : Int32)), .val (.ref w_COMMIT), .val (.int (0 : Int32)), .unset, .unset, .unset] [(.int (3 : Int32))]))
  refine own_st (fun t k => XS.iconst X2.here hx rfl (hb hby at_23) k) ?_
  show own_Fin p e below _ (T2.setTop (mkF m 24 #[.val (.int p0), .val (.int (3 : Int32)), .val (.ref w_COMMIT), .val (.int (0 : Int32)), .unset, .unset, .unset] [(.int (4 : Int32)), (.int (3 : Int32))]))
  refine own_st (fun t k => XS.icmpYes X2.here hx rfl (pc0 := 24) (pc' := 31) rfl (hb hby at_24) rfl (by decide) (by decide) (by decide) k) ?_
  show own_Fin p e below _ (T2.setTop (mkF m 31 #[.val (.int p0), .val (.int (3 : Int32)), .val (.ref w_COMMIT), .val (.int (0 : Int32)), .unset, .unset, .unset] []))
  refine own_st (fun t k => XS.iconst X2.here hx rfl (hb hby at_31) k) ?_
  show own_Fin p e below _ (T2.setTop (mkF m 32 #[.val (.int p0), .val (.int (3 : Int32)), .val (.ref w_COMMIT), .val (.int (0 : Int32)), .unset, .unset, .unset] [(.int (0 : Int32))]))
  refine own_st (fun t k => XS.istore X2.here hx rfl (hb hby at_32) rfl (l' := #[.val (.int p0), .val (.int (3 : Int32)), .val (.ref w_COMMIT), .val (.int (0 : Int32)), .val (.int (0 : Int32)), .unset, .unset]) rfl k) ?_
  show own_Fin p e below _ (T2.setTop (mkF m 34 #[.val (.int p0), .val (.int (3 : Int32)), .val (.ref w_COMMIT), .val (.int (0 : Int32)), .val (.int (0 : Int32)), .unset, .unset] []))
  refine own_st (fun t k => XS.aloadN X2.here hx rfl (hb hby at_34) rfl rfl k) ?_
  show own_Fin p e below _ (T2.setTop (mkF m 35 #[.val (.int p0), .val (.int (3 : Int32)), .val (.ref w_COMMIT), .val (.int (0 : Int32)), .val (.int (0 : Int32)), .unset, .unset] [(.ref w_COMMIT)]))
  obtain ⟨cq3, kq3, q3a, q3b, q3c⟩ := isOf hZ e2 E_COMMIT
  obtain ⟨_, _, ⟨T3, L3, k3, n3⟩, -, X3, ⟨Lc3, hQ3, l3, y3, z3⟩, st3⟩ := X2.virtualBack hx (y := (⟨"com/example/uni_lock/unilock/cli/Command", "takesDelete", "()Z"⟩ : MethodName)) (z := (⟨"com/example/uni_lock/unilock/cli/Command", "takesDelete", "()Z"⟩ : MethodName)) hown (mvT hZ (hw _ (List.mem_of_getElem? (i := 14) rfl))) (mvT hZ (hw _ (List.mem_of_getElem? (i := 15) rfl))) (notFace_of_selects (args := #[]) (mvT hZ (hw _ (List.mem_of_getElem? (i := 17) rfl)))) (mvT hZ (hw _ (List.mem_of_getElem? (i := 17) rfl))) (mvT hZ (hw _ (List.mem_of_getElem? (i := 16) rfl))) (by decide) (backOf (W := 0) (rm3_w_COMMIT l Z a0 hw [] w_PATH w_STATUS w_COMMIT w_RANGE w_WRITE w_READ h0 n0 (by exact ⟨S_PATH, E_PATH, S_STATUS, E_STATUS, S_COMMIT, E_COMMIT, S_RANGE, E_RANGE, S_WRITE, E_WRITE, S_READ, E_READ, F_PATH_ordinal, F_STATUS_ordinal, F_COMMIT_ordinal, F_RANGE_ordinal, F_WRITE_ordinal, F_READ_ordinal⟩)) hZ (hw _ (List.mem_of_getElem? (i := 18) rfl)) (hw _ (List.mem_of_getElem? (i := 6) rfl)) (by decide) (by decide)) q3a q3c (g := (mkF m 35 #[.val (.int p0), .val (.int (3 : Int32)), .val (.ref w_COMMIT), .val (.int (0 : Int32)), .val (.int (0 : Int32)), .unset, .unset] [(.ref w_COMMIT)])) rfl (by rw [hml]; rfl) (Steps.refl _) (argsL := []) (rest := []) (lenOf pd___Z rfl) rfl (by show 2 * 0 + _ ≤ _; exact Nat.le_of_eq rfl) (hb hby at_35) (fun _ _ => ⟨rfl, e2, (by decide : 0 + 0 ≤ _), (by decide : 0 + 0 ≤ _)⟩)
  dsimp only [Pt.U, Pt.locs, Pt.cells, Pt.slots] at X3 l3 y3 z3 st3 hQ3
  subst l3 y3 z3
  obtain ⟨rfl, N3q, e3⟩ := hQ3
  have N3 := Fr.app N2 N3q
  refine own_tr st3 ?_
  show own_Fin p e below _ (T3.setTop (mkF m 38 #[.val (.int p0), .val (.int (3 : Int32)), .val (.ref w_COMMIT), .val (.int (0 : Int32)), .val (.int (0 : Int32)), .unset, .unset] [(.int (0 : Int32))]))
  refine own_st (fun t k => XS.ifNo X3.here hx rfl (hb hby at_38) rfl (by decide) k) ?_
  show own_Fin p e below _ (T3.setTop (mkF m 41 #[.val (.int p0), .val (.int (3 : Int32)), .val (.ref w_COMMIT), .val (.int (0 : Int32)), .val (.int (0 : Int32)), .unset, .unset] []))
  refine own_st (fun t k => XS.aloadN X3.here hx rfl (hb hby at_41) rfl rfl k) ?_
  show own_Fin p e below _ (T3.setTop (mkF m 42 #[.val (.int p0), .val (.int (3 : Int32)), .val (.ref w_COMMIT), .val (.int (0 : Int32)), .val (.int (0 : Int32)), .unset, .unset] [(.ref w_COMMIT)]))
  obtain ⟨cq4, kq4, q4a, q4b, q4c⟩ := isOf hZ e3 E_COMMIT
  obtain ⟨_, _, ⟨T4, L4, k4, n4⟩, -, X4, ⟨Lc4, hQ4, l4, y4, z4⟩, st4⟩ := X3.virtualBack hx (y := (⟨"com/example/uni_lock/unilock/cli/Command", "takesRange", "()Z"⟩ : MethodName)) (z := (⟨"com/example/uni_lock/unilock/cli/Command", "takesRange", "()Z"⟩ : MethodName)) hown (mvT hZ (hw _ (List.mem_of_getElem? (i := 30) rfl))) (mvT hZ (hw _ (List.mem_of_getElem? (i := 31) rfl))) (notFace_of_selects (args := #[]) (mvT hZ (hw _ (List.mem_of_getElem? (i := 33) rfl)))) (mvT hZ (hw _ (List.mem_of_getElem? (i := 33) rfl))) (mvT hZ (hw _ (List.mem_of_getElem? (i := 32) rfl))) (by decide) (backOf (W := 0) (rm5_w_COMMIT l Z a0 hw [] w_PATH w_STATUS w_COMMIT w_RANGE w_WRITE w_READ h0 n0 (by exact ⟨S_PATH, E_PATH, S_STATUS, E_STATUS, S_COMMIT, E_COMMIT, S_RANGE, E_RANGE, S_WRITE, E_WRITE, S_READ, E_READ, F_PATH_ordinal, F_STATUS_ordinal, F_COMMIT_ordinal, F_RANGE_ordinal, F_WRITE_ordinal, F_READ_ordinal⟩)) hZ (hw _ (List.mem_of_getElem? (i := 34) rfl)) (hw _ (List.mem_of_getElem? (i := 6) rfl)) (by decide) (by decide)) q4a q4c (g := (mkF m 42 #[.val (.int p0), .val (.int (3 : Int32)), .val (.ref w_COMMIT), .val (.int (0 : Int32)), .val (.int (0 : Int32)), .unset, .unset] [(.ref w_COMMIT)])) rfl (by rw [hml]; rfl) (Steps.refl _) (argsL := []) (rest := []) (lenOf pd___Z rfl) rfl (by show 2 * 0 + _ ≤ _; exact Nat.le_of_eq rfl) (hb hby at_42) (fun _ _ => ⟨rfl, e3, (by decide : 0 + 0 ≤ _), (by decide : 0 + 0 ≤ _)⟩)
  dsimp only [Pt.U, Pt.locs, Pt.cells, Pt.slots] at X4 l4 y4 z4 st4 hQ4
  subst l4 y4 z4
  obtain ⟨rfl, N4q, e4⟩ := hQ4
  have N4 := Fr.app N3 N4q
  refine own_tr st4 ?_
  show own_Fin p e below _ (T4.setTop (mkF m 45 #[.val (.int p0), .val (.int (3 : Int32)), .val (.ref w_COMMIT), .val (.int (0 : Int32)), .val (.int (0 : Int32)), .unset, .unset] [(.int (0 : Int32))]))
  refine own_st (fun t k => XS.ifYes X4.here hx rfl (pc0 := 45) (pc' := 52) rfl (hb hby at_45) rfl (by decide) (by decide) (by decide) k) ?_
  show own_Fin p e below _ (T4.setTop (mkF m 52 #[.val (.int p0), .val (.int (3 : Int32)), .val (.ref w_COMMIT), .val (.int (0 : Int32)), .val (.int (0 : Int32)), .unset, .unset] []))
  refine own_st (fun t k => XS.iconst X4.here hx rfl (hb hby at_52) k) ?_
  show own_Fin p e below _ (T4.setTop (mkF m 53 #[.val (.int p0), .val (.int (3 : Int32)), .val (.ref w_COMMIT), .val (.int (0 : Int32)), .val (.int (0 : Int32)), .unset, .unset] [(.int (0 : Int32))]))
  refine own_st (fun t k => XS.istore X4.here hx rfl (hb hby at_53) rfl (l' := #[.val (.int p0), .val (.int (3 : Int32)), .val (.ref w_COMMIT), .val (.int (0 : Int32)), .val (.int (0 : Int32)), .val (.int (0 : Int32)), .unset]) rfl k) ?_
  show own_Fin p e below _ (T4.setTop (mkF m 55 #[.val (.int p0), .val (.int (3 : Int32)), .val (.ref w_COMMIT), .val (.int (0 : Int32)), .val (.int (0 : Int32)), .val (.int (0 : Int32)), .unset] []))
  refine own_st (fun t k => XS.iloadN X4.here hx rfl (hb hby at_55) rfl k) ?_
  show own_Fin p e below _ (T4.setTop (mkF m 56 #[.val (.int p0), .val (.int (3 : Int32)), .val (.ref w_COMMIT), .val (.int (0 : Int32)), .val (.int (0 : Int32)), .val (.int (0 : Int32)), .unset] [(.int (0 : Int32))]))
  refine own_st (fun t k => XS.ifYes X4.here hx rfl (pc0 := 56) (pc' := 66) rfl (hb hby at_56) rfl (by decide) (by decide) (by decide) k) ?_
  show own_Fin p e below _ (T4.setTop (mkF m 66 #[.val (.int p0), .val (.int (3 : Int32)), .val (.ref w_COMMIT), .val (.int (0 : Int32)), .val (.int (0 : Int32)), .val (.int (0 : Int32)), .unset] []))
  refine own_st (fun t k => XS.iconst X4.here hx rfl (hb hby at_66) k) ?_
  show own_Fin p e below _ (T4.setTop (mkF m 67 #[.val (.int p0), .val (.int (3 : Int32)), .val (.ref w_COMMIT), .val (.int (0 : Int32)), .val (.int (0 : Int32)), .val (.int (0 : Int32)), .unset] [(.int (1 : Int32))]))
  refine own_st (fun t k => XS.goto X4.here hx rfl (pc0 := 67) (pc' := 71) rfl (hb hby at_67) (by decide) (by decide) k) ?_
  show own_Fin p e below _ (T4.setTop (mkF m 71 #[.val (.int p0), .val (.int (3 : Int32)), .val (.ref w_COMMIT), .val (.int (0 : Int32)), .val (.int (0 : Int32)), .val (.int (0 : Int32)), .unset] [(.int (1 : Int32))]))
  refine own_st (fun t k => XS.istore X4.here hx rfl (hb hby at_71) rfl (l' := #[.val (.int p0), .val (.int (3 : Int32)), .val (.ref w_COMMIT), .val (.int (0 : Int32)), .val (.int (0 : Int32)), .val (.int (0 : Int32)), .val (.int (1 : Int32))]) rfl k) ?_
  show own_Fin p e below _ (T4.setTop (mkF m 73 #[.val (.int p0), .val (.int (3 : Int32)), .val (.ref w_COMMIT), .val (.int (0 : Int32)), .val (.int (0 : Int32)), .val (.int (0 : Int32)), .val (.int (1 : Int32))] []))
  refine own_st (fun t k => XS.iloadN X4.here hx rfl (hb hby at_73) rfl k) ?_
  show own_Fin p e below _ (T4.setTop (mkF m 74 #[.val (.int p0), .val (.int (3 : Int32)), .val (.ref w_COMMIT), .val (.int (0 : Int32)), .val (.int (0 : Int32)), .val (.int (0 : Int32)), .val (.int (1 : Int32))] [(.int (0 : Int32))]))
  refine own_st (fun t k => XS.iload X4.here hx rfl (hb hby at_74) rfl k) ?_
  show own_Fin p e below _ (T4.setTop (mkF m 76 #[.val (.int p0), .val (.int (3 : Int32)), .val (.ref w_COMMIT), .val (.int (0 : Int32)), .val (.int (0 : Int32)), .val (.int (0 : Int32)), .val (.int (1 : Int32))] [(.int (0 : Int32)), (.int (0 : Int32))]))
  refine own_st (fun t k => XS.icmpNo X4.here hx rfl (hb hby at_76) rfl (by decide) k) ?_
  show own_Fin p e below _ (T4.setTop (mkF m 79 #[.val (.int p0), .val (.int (3 : Int32)), .val (.ref w_COMMIT), .val (.int (0 : Int32)), .val (.int (0 : Int32)), .val (.int (0 : Int32)), .val (.int (1 : Int32))] []))
  refine own_st (fun t k => XS.iloadN X4.here hx rfl (hb hby at_79) rfl k) ?_
  show own_Fin p e below _ (T4.setTop (mkF m 80 #[.val (.int p0), .val (.int (3 : Int32)), .val (.ref w_COMMIT), .val (.int (0 : Int32)), .val (.int (0 : Int32)), .val (.int (0 : Int32)), .val (.int (1 : Int32))] [(.int (0 : Int32))]))
  refine own_st (fun t k => XS.iload X4.here hx rfl (hb hby at_80) rfl k) ?_
  show own_Fin p e below _ (T4.setTop (mkF m 82 #[.val (.int p0), .val (.int (3 : Int32)), .val (.ref w_COMMIT), .val (.int (0 : Int32)), .val (.int (0 : Int32)), .val (.int (0 : Int32)), .val (.int (1 : Int32))] [(.int (0 : Int32)), (.int (0 : Int32))]))
  refine own_st (fun t k => XS.icmpNo X4.here hx rfl (hb hby at_82) rfl (by decide) k) ?_
  show own_Fin p e below _ (T4.setTop (mkF m 85 #[.val (.int p0), .val (.int (3 : Int32)), .val (.ref w_COMMIT), .val (.int (0 : Int32)), .val (.int (0 : Int32)), .val (.int (0 : Int32)), .val (.int (1 : Int32))] []))
  refine own_st (fun t k => XS.iload X4.here hx rfl (hb hby at_85) rfl k) ?_
  show own_Fin p e below _ (T4.setTop (mkF m 87 #[.val (.int p0), .val (.int (3 : Int32)), .val (.ref w_COMMIT), .val (.int (0 : Int32)), .val (.int (0 : Int32)), .val (.int (0 : Int32)), .val (.int (1 : Int32))] [(.int (1 : Int32))]))
  refine own_st (fun t k => XS.ifNo X4.here hx rfl (hb hby at_87) rfl (by decide) k) ?_
  show own_Fin p e below _ (T4.setTop (mkF m 90 #[.val (.int p0), .val (.int (3 : Int32)), .val (.ref w_COMMIT), .val (.int (0 : Int32)), .val (.int (0 : Int32)), .val (.int (0 : Int32)), .val (.int (1 : Int32))] []))
  refine own_st (fun t k => XS.iconst X4.here hx rfl (hb hby at_90) k) ?_
  show own_Fin p e below _ (T4.setTop (mkF m 91 #[.val (.int p0), .val (.int (3 : Int32)), .val (.ref w_COMMIT), .val (.int (0 : Int32)), .val (.int (0 : Int32)), .val (.int (0 : Int32)), .val (.int (1 : Int32))] [(.int (1 : Int32))]))
  refine own_st (fun t k => XS.goto X4.here hx rfl (pc0 := 91) (pc' := 95) rfl (hb hby at_91) (by decide) (by decide) k) ?_
  show own_Fin p e below _ (T4.setTop (mkF m 95 #[.val (.int p0), .val (.int (3 : Int32)), .val (.ref w_COMMIT), .val (.int (0 : Int32)), .val (.int (0 : Int32)), .val (.int (0 : Int32)), .val (.int (1 : Int32))] [(.int (1 : Int32))]))
  obtain ⟨fs, hr, hrun, hended, hW, hsame⟩ := X4.leave (v := some (.int (1 : Int32))) (fun h => by rw [Bd.returns] at h; cases h)
  exact ⟨_, _, retN X4 hx (t := .boolean) Bd.returns (by simp) (hb hby at_95) hr, hrun, hended, _, _, rfl, ⟨rfl, N4, e4⟩, ⟨_, rfl⟩, hW, hsame.mono (by decide) (by decide)⟩
theorem d1_35 : decode method_2_code 35 = .ok (.iload_n 0, 1) := by decide +kernel
theorem d1_36 : decode method_2_code 36 = .ok (.iconst 4, 1) := by decide +kernel
theorem d1_37 : decode method_2_code 37 = .ok (.if_icmp .ne 7, 3) := by decide +kernel
theorem d1_40 : decode method_2_code 40 = .ok (.getstatic 22, 3) := by decide +kernel
theorem d1_43 : decode method_2_code 43 = .ok (.areturn, 1) := by decide +kernel
set_option maxRecDepth 65536 in
set_option maxHeartbeats 40000000 in
theorem rm1_4 (l : Launch) (Z : State) (a0 : Array Value) (hw : ∀ d ∈ tables_1, d.before a0 Z = true) (ws : List Jvm.Cond) (w_PATH w_STATUS w_COMMIT w_RANGE w_WRITE w_READ : Addr) (h0 : Heap) (n0 : Nat) (PN : own_Pins Z h0 w_PATH w_STATUS w_COMMIT w_RANGE w_WRITE w_READ) :
    MetFree l (⟨"com/example/uni_lock/unilock/cli/CommandTakesSharedPinLaw", "pick", "(I)Lcom/example/uni_lock/unilock/cli/Command;"⟩ : MethodName) (head1 (Jvm.Cond.code (⟨"com/example/uni_lock/unilock/cli/CommandTakesSharedPinLaw", "pick", "(I)Lcom/example/uni_lock/unilock/cli/Command;"⟩ : MethodName) method_2_code 1 (some (.object "com/example/uni_lock/unilock/cli/Command")) :: ws) ({ frames := 0, cells := 0, slots := 0, locals := 0 } : Room)) (fun a U => a = #[(.int (4 : Int32))] ∧ Z.Warmed39 U.vm ∧ U.heap = h0) (fun _ _ _ _ _ => True) (fun _ U o U' => ∃ v L, o = .returned v ∧ own_Q h0 n0 (some (.ref w_RANGE)) v U'.heap L ∧ FrameEnd U o U' L ({ frames := 0, cells := 0, slots := 0, locals := 0 } : Room).cells ({ frames := 0, cells := 0, slots := 0, locals := 0 } : Room).slots) := by
  obtain ⟨S_PATH, E_PATH, S_STATUS, E_STATUS, S_COMMIT, E_COMMIT, S_RANGE, E_RANGE, S_WRITE, E_WRITE, S_READ, E_READ, F_PATH_ordinal, F_STATUS_ordinal, F_COMMIT_ordinal, F_RANGE_ordinal, F_WRITE_ordinal, F_READ_ordinal⟩ := PN
  refine MetFree.of_bodySF (plainFor_of_name pn_com_example_uni_lock_unilock_cli_CommandTakesSharedPinLaw) hisR ?_
  intro p e s m args below meth c s₁ Bd hml0 hP hK
  obtain ⟨rfl, hZ, hh⟩ := hP
  have hx := Bd.exec
  have hby := Bd.bytes
  have hml : c.maxLocals = 1 := hml0
  have hown : s.vm.findClass "com/example/uni_lock/unilock/cli/CommandTakesSharedPinLaw" = some m.cls := findClass_of_methodNamed Bd.named
  have X0 : Stand p l e ({ frames := 0, cells := 0, slots := 0, locals := 0 } : Room) s m #[(.int (4 : Int32))] below meth c s₁ [] 0 0 := Stand.of_body Bd
  have e0 : s₁.heap = h0 := by rw [← hh, Bd.state]; rfl
  have N0 := Fr.nil n0
  refine (?_ : own_Fin p e below _ _)
  refine own_st (fun t k => castTop (ef_1_I m (4 : Int32)) k) ?_
  show own_Fin p e below _ (s₁.setTop (mkF m 0 #[.val (.int (4 : Int32))] []))
  refine own_st (fun t k => XS.iloadN X0.here hx rfl (hb hby d1_0) rfl k) ?_
  show own_Fin p e below _ (s₁.setTop (mkF m 1 #[.val (.int (4 : Int32))] [(.int (4 : Int32))]))
  refine own_st (fun t k => XS.ifYes X0.here hx rfl (pc0 := 1) (pc' := 8) rfl (hb hby d1_1) rfl (by decide) (by decide) (by decide) k) ?_
  show own_Fin p e below _ (s₁.setTop (mkF m 8 #[.val (.int (4 : Int32))] []))
  refine own_st (fun t k => XS.iloadN X0.here hx rfl (hb hby d1_8) rfl k) ?_
  show own_Fin p e below _ (s₁.setTop (mkF m 9 #[.val (.int (4 : Int32))] [(.int (4 : Int32))]))
  refine own_st (fun t k => XS.iconst X0.here hx rfl (hb hby d1_9) k) ?_
  show own_Fin p e below _ (s₁.setTop (mkF m 10 #[.val (.int (4 : Int32))] [(.int (1 : Int32)), (.int (4 : Int32))]))
  refine own_st (fun t k => XS.icmpYes X0.here hx rfl (pc0 := 10) (pc' := 17) rfl (hb hby d1_10) rfl (by decide) (by decide) (by decide) k) ?_
  show own_Fin p e below _ (s₁.setTop (mkF m 17 #[.val (.int (4 : Int32))] []))
  refine own_st (fun t k => XS.iloadN X0.here hx rfl (hb hby d1_17) rfl k) ?_
  show own_Fin p e below _ (s₁.setTop (mkF m 18 #[.val (.int (4 : Int32))] [(.int (4 : Int32))]))
  refine own_st (fun t k => XS.iconst X0.here hx rfl (hb hby d1_18) k) ?_
  show own_Fin p e below _ (s₁.setTop (mkF m 19 #[.val (.int (4 : Int32))] [(.int (2 : Int32)), (.int (4 : Int32))]))
  refine own_st (fun t k => XS.icmpYes X0.here hx rfl (pc0 := 19) (pc' := 26) rfl (hb hby d1_19) rfl (by decide) (by decide) (by decide) k) ?_
  show own_Fin p e below _ (s₁.setTop (mkF m 26 #[.val (.int (4 : Int32))] []))
  refine own_st (fun t k => XS.iloadN X0.here hx rfl (hb hby d1_26) rfl k) ?_
  show own_Fin p e below _ (s₁.setTop (mkF m 27 #[.val (.int (4 : Int32))] [(.int (4 : Int32))]))
  refine own_st (fun t k => XS.iconst X0.here hx rfl (hb hby d1_27) k) ?_
  show own_Fin p e below _ (s₁.setTop (mkF m 28 #[.val (.int (4 : Int32))] [(.int (3 : Int32)), (.int (4 : Int32))]))
  refine own_st (fun t k => XS.icmpYes X0.here hx rfl (pc0 := 28) (pc' := 35) rfl (hb hby d1_28) rfl (by decide) (by decide) (by decide) k) ?_
  show own_Fin p e below _ (s₁.setTop (mkF m 35 #[.val (.int (4 : Int32))] []))
  refine own_st (fun t k => XS.iloadN X0.here hx rfl (hb hby d1_35) rfl k) ?_
  show own_Fin p e below _ (s₁.setTop (mkF m 36 #[.val (.int (4 : Int32))] [(.int (4 : Int32))]))
  refine own_st (fun t k => XS.iconst X0.here hx rfl (hb hby d1_36) k) ?_
  show own_Fin p e below _ (s₁.setTop (mkF m 37 #[.val (.int (4 : Int32))] [(.int (4 : Int32)), (.int (4 : Int32))]))
  refine own_st (fun t k => XS.icmpNo X0.here hx rfl (hb hby d1_37) rfl (by decide) k) ?_
  show own_Fin p e below _ (s₁.setTop (mkF m 40 #[.val (.int (4 : Int32))] []))
  obtain ⟨T1, X1, e1, st1⟩ := getS2 X0 hx hZ hown (host := "") (Or.inl (hw _ (List.mem_of_getElem? (i := 40) rfl))) Via.refl e0 S_RANGE (g := (mkF m 40 #[.val (.int (4 : Int32))] [])) rfl (hb hby d1_40)
  refine own_st st1 ?_
  show own_Fin p e below _ (T1.setTop (mkF m 43 #[.val (.int (4 : Int32))] [(.ref w_RANGE)]))
  obtain ⟨fs, hr, hrun, hended, hW, hsame⟩ := X1.leave (v := some (.ref w_RANGE)) (fun h => by rw [Bd.returns] at h; cases h)
  exact ⟨_, _, retOut X1 hx (t := (.object "com/example/uni_lock/unilock/cli/Command")) Bd.returns rfl (Or.inr (Or.inr (Or.inr (Or.inr ⟨rfl, rfl, rfl⟩)))) (hb hby d1_43) hr, hrun, hended, _, _, rfl, ⟨rfl, N0, e1⟩, ⟨_, rfl⟩, hW, hsame.mono (by decide) (by decide)⟩
set_option maxRecDepth 65536 in
set_option maxHeartbeats 40000000 in
theorem rm2_w_RANGE (l : Launch) (Z : State) (a0 : Array Value) (hw : ∀ d ∈ tables_1, d.before a0 Z = true) (ws : List Jvm.Cond) (w_PATH w_STATUS w_COMMIT w_RANGE w_WRITE w_READ : Addr) (h0 : Heap) (n0 : Nat) (PN : own_Pins Z h0 w_PATH w_STATUS w_COMMIT w_RANGE w_WRITE w_READ) :
    MetFree l (⟨"com/example/uni_lock/unilock/cli/Command", "takesShared", "()Z"⟩ : MethodName) (head1 (Jvm.Cond.code (⟨"com/example/uni_lock/unilock/cli/Command", "takesShared", "()Z"⟩ : MethodName) prog_1_method_7_code 1 (some .boolean) :: ws) ({ frames := 0, cells := 0, slots := 0, locals := 0 } : Room)) (fun a U => a = #[(.ref w_RANGE)] ∧ Z.Warmed39 U.vm ∧ U.heap = h0) (fun _ _ _ _ _ => True) (fun _ U o U' => ∃ v L, o = .returned v ∧ own_Q h0 n0 (some (.int (1 : Int32))) v U'.heap L ∧ FrameEnd U o U' L ({ frames := 0, cells := 0, slots := 0, locals := 0 } : Room).cells ({ frames := 0, cells := 0, slots := 0, locals := 0 } : Room).slots) := by
  obtain ⟨S_PATH, E_PATH, S_STATUS, E_STATUS, S_COMMIT, E_COMMIT, S_RANGE, E_RANGE, S_WRITE, E_WRITE, S_READ, E_READ, F_PATH_ordinal, F_STATUS_ordinal, F_COMMIT_ordinal, F_RANGE_ordinal, F_WRITE_ordinal, F_READ_ordinal⟩ := PN
  refine MetFree.of_bodySF (plainFor_of_name pn_com_example_uni_lock_unilock_cli_Command) hisR ?_
  intro p e s m args below meth c s₁ Bd hml0 hP hK
  obtain ⟨rfl, hZ, hh⟩ := hP
  have hx := Bd.exec
  have hby := Bd.bytes
  have hml : c.maxLocals = 1 := hml0
  have hown : s.vm.findClass "com/example/uni_lock/unilock/cli/Command" = some m.cls := findClass_of_methodNamed Bd.named
  have X0 : Stand p l e ({ frames := 0, cells := 0, slots := 0, locals := 0 } : Room) s m #[(.ref w_RANGE)] below meth c s₁ [] 0 0 := Stand.of_body Bd
  have e0 : s₁.heap = h0 := by rw [← hh, Bd.state]; rfl
  have N0 := Fr.nil n0
  refine (?_ : own_Fin p e below _ _)
  refine own_st (fun t k => castTop (ef_2_R m w_RANGE) k) ?_
  show own_Fin p e below _ (s₁.setTop (mkF m 0 #[.val (.ref w_RANGE)] []))
  refine own_st (fun t k => XS.aloadN X0.here hx rfl (hb hby d2_0) rfl rfl k) ?_
  show own_Fin p e below _ (s₁.setTop (mkF m 1 #[.val (.ref w_RANGE)] [(.ref w_RANGE)]))
  obtain ⟨T1, X1, e1, st1⟩ := getS2 X0 hx hZ hown (host := "") (Or.inl (hw _ (List.mem_of_getElem? (i := 13) rfl))) Via.refl e0 S_PATH (g := (mkF m 1 #[.val (.ref w_RANGE)] [(.ref w_RANGE)])) rfl (hb hby d2_1)
  refine own_st st1 ?_
  show own_Fin p e below _ (T1.setTop (mkF m 4 #[.val (.ref w_RANGE)] [(.ref w_PATH), (.ref w_RANGE)]))
  refine own_st (fun t k => Jvm.RoadKit.acmp (g := (mkF m 4 #[.val (.ref w_RANGE)] [(.ref w_PATH), (.ref w_RANGE)])) X1 hx rfl rfl rfl (pc0 := 4) (pc' := 7) (same := false) rfl (hb hby d2_4) rfl (decide_eq_false fun q => (Fld.ne F_RANGE_ordinal F_PATH_ordinal (by simp)) (Value.ref.inj q)) (by decide) (by decide) k) ?_
  show own_Fin p e below _ (T1.setTop (mkF m 7 #[.val (.ref w_RANGE)] []))
  refine own_st (fun t k => XS.aloadN X1.here hx rfl (hb hby d2_7) rfl rfl k) ?_
  show own_Fin p e below _ (T1.setTop (mkF m 8 #[.val (.ref w_RANGE)] [(.ref w_RANGE)]))
  obtain ⟨T2, X2, e2, st2⟩ := getS2 X1 hx hZ hown (host := "") (Or.inl (hw _ (List.mem_of_getElem? (i := 28) rfl))) Via.refl e1 S_RANGE (g := (mkF m 8 #[.val (.ref w_RANGE)] [(.ref w_RANGE)])) rfl (hb hby d2_8)
  refine own_st st2 ?_
  show own_Fin p e below _ (T2.setTop (mkF m 11 #[.val (.ref w_RANGE)] [(.ref w_RANGE), (.ref w_RANGE)]))
  refine own_st (fun t k => Jvm.RoadKit.acmp (g := (mkF m 11 #[.val (.ref w_RANGE)] [(.ref w_RANGE), (.ref w_RANGE)])) X2 hx rfl rfl rfl (pc0 := 11) (pc' := 14) (same := true) rfl (hb hby d2_11) rfl (decide_eq_true rfl) (by decide) (by decide) k) ?_
  show own_Fin p e below _ (T2.setTop (mkF m 14 #[.val (.ref w_RANGE)] []))
  refine own_st (fun t k => XS.iconst X2.here hx rfl (hb hby d2_14) k) ?_
  show own_Fin p e below _ (T2.setTop (mkF m 15 #[.val (.ref w_RANGE)] [(.int (1 : Int32))]))
  refine own_st (fun t k => XS.goto X2.here hx rfl (pc0 := 15) (pc' := 19) rfl (hb hby d2_15) (by decide) (by decide) k) ?_
  show own_Fin p e below _ (T2.setTop (mkF m 19 #[.val (.ref w_RANGE)] [(.int (1 : Int32))]))
  obtain ⟨fs, hr, hrun, hended, hW, hsame⟩ := X2.leave (v := some (.int (1 : Int32))) (fun h => by rw [Bd.returns] at h; cases h)
  exact ⟨_, _, retN X2 hx (t := .boolean) Bd.returns (by simp) (hb hby d2_19) hr, hrun, hended, _, _, rfl, ⟨rfl, N0, e2⟩, ⟨_, rfl⟩, hW, hsame.mono (by decide) (by decide)⟩
set_option maxRecDepth 65536 in
set_option maxHeartbeats 40000000 in
theorem rm3_w_RANGE (l : Launch) (Z : State) (a0 : Array Value) (hw : ∀ d ∈ tables_1, d.before a0 Z = true) (ws : List Jvm.Cond) (w_PATH w_STATUS w_COMMIT w_RANGE w_WRITE w_READ : Addr) (h0 : Heap) (n0 : Nat) (PN : own_Pins Z h0 w_PATH w_STATUS w_COMMIT w_RANGE w_WRITE w_READ) :
    MetFree l (⟨"com/example/uni_lock/unilock/cli/Command", "takesDelete", "()Z"⟩ : MethodName) (head1 (Jvm.Cond.code (⟨"com/example/uni_lock/unilock/cli/Command", "takesDelete", "()Z"⟩ : MethodName) prog_1_method_8_code 1 (some .boolean) :: ws) ({ frames := 0, cells := 0, slots := 0, locals := 0 } : Room)) (fun a U => a = #[(.ref w_RANGE)] ∧ Z.Warmed39 U.vm ∧ U.heap = h0) (fun _ _ _ _ _ => True) (fun _ U o U' => ∃ v L, o = .returned v ∧ own_Q h0 n0 (some (.int (0 : Int32))) v U'.heap L ∧ FrameEnd U o U' L ({ frames := 0, cells := 0, slots := 0, locals := 0 } : Room).cells ({ frames := 0, cells := 0, slots := 0, locals := 0 } : Room).slots) := by
  obtain ⟨S_PATH, E_PATH, S_STATUS, E_STATUS, S_COMMIT, E_COMMIT, S_RANGE, E_RANGE, S_WRITE, E_WRITE, S_READ, E_READ, F_PATH_ordinal, F_STATUS_ordinal, F_COMMIT_ordinal, F_RANGE_ordinal, F_WRITE_ordinal, F_READ_ordinal⟩ := PN
  refine MetFree.of_bodySF (plainFor_of_name pn_com_example_uni_lock_unilock_cli_Command) hisR ?_
  intro p e s m args below meth c s₁ Bd hml0 hP hK
  obtain ⟨rfl, hZ, hh⟩ := hP
  have hx := Bd.exec
  have hby := Bd.bytes
  have hml : c.maxLocals = 1 := hml0
  have hown : s.vm.findClass "com/example/uni_lock/unilock/cli/Command" = some m.cls := findClass_of_methodNamed Bd.named
  have X0 : Stand p l e ({ frames := 0, cells := 0, slots := 0, locals := 0 } : Room) s m #[(.ref w_RANGE)] below meth c s₁ [] 0 0 := Stand.of_body Bd
  have e0 : s₁.heap = h0 := by rw [← hh, Bd.state]; rfl
  have N0 := Fr.nil n0
  refine (?_ : own_Fin p e below _ _)
  refine own_st (fun t k => castTop (ef_3_R m w_RANGE) k) ?_
  show own_Fin p e below _ (s₁.setTop (mkF m 0 #[.val (.ref w_RANGE)] []))
  refine own_st (fun t k => XS.aloadN X0.here hx rfl (hb hby d3_0) rfl rfl k) ?_
  show own_Fin p e below _ (s₁.setTop (mkF m 1 #[.val (.ref w_RANGE)] [(.ref w_RANGE)]))
  obtain ⟨T1, X1, e1, st1⟩ := getS2 X0 hx hZ hown (host := "") (Or.inl (hw _ (List.mem_of_getElem? (i := 13) rfl))) Via.refl e0 S_PATH (g := (mkF m 1 #[.val (.ref w_RANGE)] [(.ref w_RANGE)])) rfl (hb hby d3_1)
  refine own_st st1 ?_
  show own_Fin p e below _ (T1.setTop (mkF m 4 #[.val (.ref w_RANGE)] [(.ref w_PATH), (.ref w_RANGE)]))
  refine own_st (fun t k => Jvm.RoadKit.acmp (g := (mkF m 4 #[.val (.ref w_RANGE)] [(.ref w_PATH), (.ref w_RANGE)])) X1 hx rfl rfl rfl (pc0 := 4) (pc' := 11) (same := false) rfl (hb hby d3_4) rfl (decide_eq_false fun q => (Fld.ne F_RANGE_ordinal F_PATH_ordinal (by simp)) (Value.ref.inj q)) (by decide) (by decide) k) ?_
  show own_Fin p e below _ (T1.setTop (mkF m 11 #[.val (.ref w_RANGE)] []))
  refine own_st (fun t k => XS.iconst X1.here hx rfl (hb hby d3_11) k) ?_
  show own_Fin p e below _ (T1.setTop (mkF m 12 #[.val (.ref w_RANGE)] [(.int (0 : Int32))]))
  obtain ⟨fs, hr, hrun, hended, hW, hsame⟩ := X1.leave (v := some (.int (0 : Int32))) (fun h => by rw [Bd.returns] at h; cases h)
  exact ⟨_, _, retN X1 hx (t := .boolean) Bd.returns (by simp) (hb hby d3_12) hr, hrun, hended, _, _, rfl, ⟨rfl, N0, e1⟩, ⟨_, rfl⟩, hW, hsame.mono (by decide) (by decide)⟩
theorem d5_7 : decode prog_1_method_9_code 7 = .ok (.iconst 1, 1) := by decide +kernel
theorem d5_8 : decode prog_1_method_9_code 8 = .ok (.goto 4, 3) := by decide +kernel
set_option maxRecDepth 65536 in
set_option maxHeartbeats 40000000 in
theorem rm5_w_RANGE (l : Launch) (Z : State) (a0 : Array Value) (hw : ∀ d ∈ tables_1, d.before a0 Z = true) (ws : List Jvm.Cond) (w_PATH w_STATUS w_COMMIT w_RANGE w_WRITE w_READ : Addr) (h0 : Heap) (n0 : Nat) (PN : own_Pins Z h0 w_PATH w_STATUS w_COMMIT w_RANGE w_WRITE w_READ) :
    MetFree l (⟨"com/example/uni_lock/unilock/cli/Command", "takesRange", "()Z"⟩ : MethodName) (head1 (Jvm.Cond.code (⟨"com/example/uni_lock/unilock/cli/Command", "takesRange", "()Z"⟩ : MethodName) prog_1_method_9_code 1 (some .boolean) :: ws) ({ frames := 0, cells := 0, slots := 0, locals := 0 } : Room)) (fun a U => a = #[(.ref w_RANGE)] ∧ Z.Warmed39 U.vm ∧ U.heap = h0) (fun _ _ _ _ _ => True) (fun _ U o U' => ∃ v L, o = .returned v ∧ own_Q h0 n0 (some (.int (1 : Int32))) v U'.heap L ∧ FrameEnd U o U' L ({ frames := 0, cells := 0, slots := 0, locals := 0 } : Room).cells ({ frames := 0, cells := 0, slots := 0, locals := 0 } : Room).slots) := by
  obtain ⟨S_PATH, E_PATH, S_STATUS, E_STATUS, S_COMMIT, E_COMMIT, S_RANGE, E_RANGE, S_WRITE, E_WRITE, S_READ, E_READ, F_PATH_ordinal, F_STATUS_ordinal, F_COMMIT_ordinal, F_RANGE_ordinal, F_WRITE_ordinal, F_READ_ordinal⟩ := PN
  refine MetFree.of_bodySF (plainFor_of_name pn_com_example_uni_lock_unilock_cli_Command) hisR ?_
  intro p e s m args below meth c s₁ Bd hml0 hP hK
  obtain ⟨rfl, hZ, hh⟩ := hP
  have hx := Bd.exec
  have hby := Bd.bytes
  have hml : c.maxLocals = 1 := hml0
  have hown : s.vm.findClass "com/example/uni_lock/unilock/cli/Command" = some m.cls := findClass_of_methodNamed Bd.named
  have X0 : Stand p l e ({ frames := 0, cells := 0, slots := 0, locals := 0 } : Room) s m #[(.ref w_RANGE)] below meth c s₁ [] 0 0 := Stand.of_body Bd
  have e0 : s₁.heap = h0 := by rw [← hh, Bd.state]; rfl
  have N0 := Fr.nil n0
  refine (?_ : own_Fin p e below _ _)
  refine own_st (fun t k => castTop (ef_5_R m w_RANGE) k) ?_
  show own_Fin p e below _ (s₁.setTop (mkF m 0 #[.val (.ref w_RANGE)] []))
  refine own_st (fun t k => XS.aloadN X0.here hx rfl (hb hby d5_0) rfl rfl k) ?_
  show own_Fin p e below _ (s₁.setTop (mkF m 1 #[.val (.ref w_RANGE)] [(.ref w_RANGE)]))
  obtain ⟨T1, X1, e1, st1⟩ := getS2 X0 hx hZ hown (host := "") (Or.inl (hw _ (List.mem_of_getElem? (i := 28) rfl))) Via.refl e0 S_RANGE (g := (mkF m 1 #[.val (.ref w_RANGE)] [(.ref w_RANGE)])) rfl (hb hby d5_1)
  refine own_st st1 ?_
  show own_Fin p e below _ (T1.setTop (mkF m 4 #[.val (.ref w_RANGE)] [(.ref w_RANGE), (.ref w_RANGE)]))
  refine own_st (fun t k => Jvm.RoadKit.acmp (g := (mkF m 4 #[.val (.ref w_RANGE)] [(.ref w_RANGE), (.ref w_RANGE)])) X1 hx rfl rfl rfl (pc0 := 4) (pc' := 7) (same := true) rfl (hb hby d5_4) rfl (decide_eq_true rfl) (by decide) (by decide) k) ?_
  show own_Fin p e below _ (T1.setTop (mkF m 7 #[.val (.ref w_RANGE)] []))
  refine own_st (fun t k => XS.iconst X1.here hx rfl (hb hby d5_7) k) ?_
  show own_Fin p e below _ (T1.setTop (mkF m 8 #[.val (.ref w_RANGE)] [(.int (1 : Int32))]))
  refine own_st (fun t k => XS.goto X1.here hx rfl (pc0 := 8) (pc' := 12) rfl (hb hby d5_8) (by decide) (by decide) k) ?_
  show own_Fin p e below _ (T1.setTop (mkF m 12 #[.val (.ref w_RANGE)] [(.int (1 : Int32))]))
  obtain ⟨fs, hr, hrun, hended, hW, hsame⟩ := X1.leave (v := some (.int (1 : Int32))) (fun h => by rw [Bd.returns] at h; cases h)
  exact ⟨_, _, retN X1 hx (t := .boolean) Bd.returns (by simp) (hb hby d5_12) hr, hrun, hended, _, _, rfl, ⟨rfl, N0, e1⟩, ⟨_, rfl⟩, hW, hsame.mono (by decide) (by decide)⟩
set_option maxRecDepth 65536 in
set_option maxHeartbeats 40000000 in
theorem rm4_w_RANGE (l : Launch) (Z : State) (a0 : Array Value) (hw : ∀ d ∈ tables_1, d.before a0 Z = true) (ws : List Jvm.Cond) (w_PATH w_STATUS w_COMMIT w_RANGE w_WRITE w_READ : Addr) (h0 : Heap) (n0 : Nat) (PN : own_Pins Z h0 w_PATH w_STATUS w_COMMIT w_RANGE w_WRITE w_READ) :
    MetFree l (⟨"com/example/uni_lock/unilock/cli/Command", "locks", "()Z"⟩ : MethodName) (head1 (Jvm.Cond.code (⟨"com/example/uni_lock/unilock/cli/Command", "locks", "()Z"⟩ : MethodName) prog_1_method_6_code 1 (some .boolean) :: ws) ({ frames := 0, cells := 0, slots := 0, locals := 0 } : Room)) (fun a U => a = #[(.ref w_RANGE)] ∧ Z.Warmed39 U.vm ∧ U.heap = h0) (fun _ _ _ _ _ => True) (fun _ U o U' => ∃ v L, o = .returned v ∧ own_Q h0 n0 (some (.int (1 : Int32))) v U'.heap L ∧ FrameEnd U o U' L ({ frames := 0, cells := 0, slots := 0, locals := 0 } : Room).cells ({ frames := 0, cells := 0, slots := 0, locals := 0 } : Room).slots) := by
  obtain ⟨S_PATH, E_PATH, S_STATUS, E_STATUS, S_COMMIT, E_COMMIT, S_RANGE, E_RANGE, S_WRITE, E_WRITE, S_READ, E_READ, F_PATH_ordinal, F_STATUS_ordinal, F_COMMIT_ordinal, F_RANGE_ordinal, F_WRITE_ordinal, F_READ_ordinal⟩ := PN
  refine MetFree.of_bodySF (plainFor_of_name pn_com_example_uni_lock_unilock_cli_Command) hisR ?_
  intro p e s m args below meth c s₁ Bd hml0 hP hK
  obtain ⟨rfl, hZ, hh⟩ := hP
  have hx := Bd.exec
  have hby := Bd.bytes
  have hml : c.maxLocals = 1 := hml0
  have hown : s.vm.findClass "com/example/uni_lock/unilock/cli/Command" = some m.cls := findClass_of_methodNamed Bd.named
  have X0 : Stand p l e ({ frames := 0, cells := 0, slots := 0, locals := 0 } : Room) s m #[(.ref w_RANGE)] below meth c s₁ [] 0 0 := Stand.of_body Bd
  have e0 : s₁.heap = h0 := by rw [← hh, Bd.state]; rfl
  have N0 := Fr.nil n0
  refine (?_ : own_Fin p e below _ _)
  refine own_st (fun t k => castTop (ef_4_R m w_RANGE) k) ?_
  show own_Fin p e below _ (s₁.setTop (mkF m 0 #[.val (.ref w_RANGE)] []))
  refine own_st (fun t k => XS.aloadN X0.here hx rfl (hb hby d4_0) rfl rfl k) ?_
  show own_Fin p e below _ (s₁.setTop (mkF m 1 #[.val (.ref w_RANGE)] [(.ref w_RANGE)]))
  obtain ⟨T1, X1, e1, st1⟩ := getS2 X0 hx hZ hown (host := "") (Or.inl (hw _ (List.mem_of_getElem? (i := 24) rfl))) Via.refl e0 S_STATUS (g := (mkF m 1 #[.val (.ref w_RANGE)] [(.ref w_RANGE)])) rfl (hb hby d4_1)
  refine own_st st1 ?_
  show own_Fin p e below _ (T1.setTop (mkF m 4 #[.val (.ref w_RANGE)] [(.ref w_STATUS), (.ref w_RANGE)]))
  refine own_st (fun t k => Jvm.RoadKit.acmp (g := (mkF m 4 #[.val (.ref w_RANGE)] [(.ref w_STATUS), (.ref w_RANGE)])) X1 hx rfl rfl rfl (pc0 := 4) (pc' := 7) (same := false) rfl (hb hby d4_4) rfl (decide_eq_false fun q => (Fld.ne F_RANGE_ordinal F_STATUS_ordinal (by simp)) (Value.ref.inj q)) (by decide) (by decide) k) ?_
  show own_Fin p e below _ (T1.setTop (mkF m 7 #[.val (.ref w_RANGE)] []))
  refine own_st (fun t k => XS.iconst X1.here hx rfl (hb hby d4_7) k) ?_
  show own_Fin p e below _ (T1.setTop (mkF m 8 #[.val (.ref w_RANGE)] [(.int (1 : Int32))]))
  refine own_st (fun t k => XS.goto X1.here hx rfl (pc0 := 8) (pc' := 12) rfl (hb hby d4_8) (by decide) (by decide) k) ?_
  show own_Fin p e below _ (T1.setTop (mkF m 12 #[.val (.ref w_RANGE)] [(.int (1 : Int32))]))
  obtain ⟨fs, hr, hrun, hended, hW, hsame⟩ := X1.leave (v := some (.int (1 : Int32))) (fun h => by rw [Bd.returns] at h; cases h)
  exact ⟨_, _, retN X1 hx (t := .boolean) Bd.returns (by simp) (hb hby d4_12) hr, hrun, hended, _, _, rfl, ⟨rfl, N0, e1⟩, ⟨_, rfl⟩, hW, hsame.mono (by decide) (by decide)⟩
set_option maxRecDepth 65536 in
set_option maxHeartbeats 40000000 in
theorem rm0_c4 (l : Launch) (Z : State) (a0 : Array Value) (hw : ∀ d ∈ tables_1, d.before a0 Z = true) (ws : List Jvm.Cond) (w_PATH w_STATUS w_COMMIT w_RANGE w_WRITE w_READ : Addr) (p0 : Int32) (h0 : Heap) (n0 : Nat) (PN : own_Pins Z h0 w_PATH w_STATUS w_COMMIT w_RANGE w_WRITE w_READ) (q0 : ((p0 &&& (2147483647 : Int32)) % (6 : Int32)) = (4 : Int32)) :
    MetFree l x (head1 (Jvm.Cond.code x code maxLocals ret :: ws) room_1) (fun a U => a = #[(.int p0)] ∧ Z.Warmed39 U.vm ∧ U.heap = h0) (fun _ _ _ _ _ => True) (fun _ U o U' => ∃ v L, o = .returned v ∧ own_Q h0 n0 (some (.int (1 : Int32))) v U'.heap L ∧ FrameEnd U o U' L room_1.cells room_1.slots) := by
  obtain ⟨S_PATH, E_PATH, S_STATUS, E_STATUS, S_COMMIT, E_COMMIT, S_RANGE, E_RANGE, S_WRITE, E_WRITE, S_READ, E_READ, F_PATH_ordinal, F_STATUS_ordinal, F_COMMIT_ordinal, F_RANGE_ordinal, F_WRITE_ordinal, F_READ_ordinal⟩ := PN
  refine MetFree.of_bodySF (plainFor_of_name pn_com_example_uni_lock_unilock_cli_CommandTakesSharedPinLaw) hisR ?_
  intro p e s m args below meth c s₁ Bd hml0 hP hK
  obtain ⟨rfl, hZ, hh⟩ := hP
  have hx := Bd.exec
  have hby := Bd.bytes
  have hml : c.maxLocals = 7 := hml0
  have hown : s.vm.findClass "com/example/uni_lock/unilock/cli/CommandTakesSharedPinLaw" = some m.cls := findClass_of_methodNamed Bd.named
  have X0 : Stand p l e room_1 s m #[(.int p0)] below meth c s₁ [] 0 0 := Stand.of_body Bd
  have e0 : s₁.heap = h0 := by rw [← hh, Bd.state]; rfl
  have N0 := Fr.nil n0
  refine (?_ : own_Fin p e below _ _)
  refine own_st (fun t k => castTop (ef_0_I m p0) k) ?_
  show own_Fin p e below _ (s₁.setTop (mkF m 0 #[.val (.int p0), .unset, .unset, .unset, .unset, .unset, .unset] []))
  refine own_st (fun t k => XS.iloadN X0.here hx rfl (hb hby at_0) rfl k) ?_
  show own_Fin p e below _ (s₁.setTop (mkF m 1 #[.val (.int p0), .unset, .unset, .unset, .unset, .unset, .unset] [(.int p0)]))
  refine own_st (fun t k => X0.ldcI hx hown (mvT hZ (hw _ (List.mem_of_getElem? (i := 0) rfl))) rfl (hb hby at_1) k) ?_
  show own_Fin p e below _ (s₁.setTop (mkF m 3 #[.val (.int p0), .unset, .unset, .unset, .unset, .unset, .unset] [(.int (2147483647 : Int32)), (.int p0)]))
  refine own_st (fun t k => XS.iand X0.here hx rfl (hb hby at_3) rfl k) ?_
  show own_Fin p e below _ (s₁.setTop (mkF m 4 #[.val (.int p0), .unset, .unset, .unset, .unset, .unset, .unset] [(.int (p0 &&& (2147483647 : Int32)))]))
  refine own_st (fun t k => XS.bipush X0.here hx rfl (hb hby at_4) k) ?_
  show own_Fin p e below _ (s₁.setTop (mkF m 6 #[.val (.int p0), .unset, .unset, .unset, .unset, .unset, .unset] [(.int (6 : Int32)), (.int (p0 &&& (2147483647 : Int32)))]))
  refine own_st (fun t k => iremM X0 hx rfl (hb hby at_6) rfl (by decide) k) ?_
  show own_Fin p e below _ (s₁.setTop (mkF m 7 #[.val (.int p0), .unset, .unset, .unset, .unset, .unset, .unset] [(.int ((p0 &&& (2147483647 : Int32)) % (6 : Int32)))]))
  rw [q0]
  show own_Fin p e below _ (s₁.setTop (mkF m 7 #[.val (.int p0), .unset, .unset, .unset, .unset, .unset, .unset] [(.int (4 : Int32))]))
  refine own_st (fun t k => XS.istoreN X0.here hx rfl (hb hby at_7) rfl (l' := #[.val (.int p0), .val (.int (4 : Int32)), .unset, .unset, .unset, .unset, .unset]) rfl k) ?_
  show own_Fin p e below _ (s₁.setTop (mkF m 8 #[.val (.int p0), .val (.int (4 : Int32)), .unset, .unset, .unset, .unset, .unset] []))
  refine own_st (fun t k => XS.iloadN X0.here hx rfl (hb hby at_8) rfl k) ?_
  show own_Fin p e below _ (s₁.setTop (mkF m 9 #[.val (.int p0), .val (.int (4 : Int32)), .unset, .unset, .unset, .unset, .unset] [(.int (4 : Int32))]))
  obtain ⟨_, _, ⟨T1, L1, k1, n1⟩, -, X1, ⟨Lc1, hQ1, l1, y1, z1⟩, st1⟩ := Jvm.LawKit.callS X0 hx (y := (⟨"com/example/uni_lock/unilock/cli/CommandTakesSharedPinLaw", "pick", "(I)Lcom/example/uni_lock/unilock/cli/Command;"⟩ : MethodName)) hown (mvT hZ (hw _ (List.mem_of_getElem? (i := 1) rfl))) (mvT hZ (hw _ (List.mem_of_getElem? (i := 2) rfl))) (mvT hZ (hw _ (List.mem_of_getElem? (i := 3) rfl))) (mvT hZ (hw _ (List.mem_of_getElem? (i := 4) rfl))) (by decide) (backOf (W := 0) (rm1_4 l Z a0 hw [] w_PATH w_STATUS w_COMMIT w_RANGE w_WRITE w_READ h0 n0 (by exact ⟨S_PATH, E_PATH, S_STATUS, E_STATUS, S_COMMIT, E_COMMIT, S_RANGE, E_RANGE, S_WRITE, E_WRITE, S_READ, E_READ, F_PATH_ordinal, F_STATUS_ordinal, F_COMMIT_ordinal, F_RANGE_ordinal, F_WRITE_ordinal, F_READ_ordinal⟩)) hZ (hw _ (List.mem_of_getElem? (i := 4) rfl)) (hw _ (List.mem_of_getElem? (i := 3) rfl)) (by decide) (by decide)) (g := (mkF m 9 #[.val (.int p0), .val (.int (4 : Int32)), .unset, .unset, .unset, .unset, .unset] [(.int (4 : Int32))])) rfl (by rw [hml]; rfl) (argsL := [(.int (4 : Int32))]) (rest := []) (lenOf pd__I_Lcom_example_uni_lock_unilock_cli_Command_ rfl) rfl (by show 2 * 0 + _ ≤ _; exact Nat.le_of_eq rfl) (hb hby at_9) (fun _ _ => ⟨rfl, e0, (by decide : 0 + 0 ≤ _), (by decide : 0 + 0 ≤ _)⟩)
  dsimp only [Pt.U, Pt.locs, Pt.cells, Pt.slots] at X1 l1 y1 z1 st1 hQ1
  subst l1 y1 z1
  obtain ⟨rfl, N1q, e1⟩ := hQ1
  have N1 := Fr.app N0 N1q
  refine own_st st1 ?_
  show own_Fin p e below _ (T1.setTop (mkF m 12 #[.val (.int p0), .val (.int (4 : Int32)), .unset, .unset, .unset, .unset, .unset] [(.ref w_RANGE)]))
  refine own_st (fun t k => XS.astoreN X1.here hx rfl (hb hby at_12) rfl rfl (l' := #[.val (.int p0), .val (.int (4 : Int32)), .val (.ref w_RANGE), .unset, .unset, .unset, .unset]) rfl k) ?_
  show own_Fin p e below _ (T1.setTop (mkF m 13 #[.val (.int p0), .val (.int (4 : Int32)), .val (.ref w_RANGE), .unset, .unset, .unset, .unset] []))
  refine own_st (fun t k => XS.aloadN X1.here hx rfl (hb hby at_13) rfl rfl k) ?_
  show own_Fin p e below _ (T1.setTop (mkF m 14 #[.val (.int p0), .val (.int (4 : Int32)), .val (.ref w_RANGE), .unset, .unset, .unset, .unset] [(.ref w_RANGE)]))
  obtain ⟨cq2, kq2, q2a, q2b, q2c⟩ := isOf hZ e1 E_RANGE
  obtain ⟨_, _, ⟨T2, L2, k2, n2⟩, -, X2, ⟨Lc2, hQ2, l2, y2, z2⟩, st2⟩ := X1.virtualBack hx (y := (⟨"com/example/uni_lock/unilock/cli/Command", "takesShared", "()Z"⟩ : MethodName)) (z := (⟨"com/example/uni_lock/unilock/cli/Command", "takesShared", "()Z"⟩ : MethodName)) hown (mvT hZ (hw _ (List.mem_of_getElem? (i := 8) rfl))) (mvT hZ (hw _ (List.mem_of_getElem? (i := 9) rfl))) (notFace_of_selects (args := #[]) (mvT hZ (hw _ (List.mem_of_getElem? (i := 11) rfl)))) (mvT hZ (hw _ (List.mem_of_getElem? (i := 11) rfl))) (mvT hZ (hw _ (List.mem_of_getElem? (i := 10) rfl))) (by decide) (backOf (W := 0) (rm2_w_RANGE l Z a0 hw [] w_PATH w_STATUS w_COMMIT w_RANGE w_WRITE w_READ h0 n0 (by exact ⟨S_PATH, E_PATH, S_STATUS, E_STATUS, S_COMMIT, E_COMMIT, S_RANGE, E_RANGE, S_WRITE, E_WRITE, S_READ, E_READ, F_PATH_ordinal, F_STATUS_ordinal, F_COMMIT_ordinal, F_RANGE_ordinal, F_WRITE_ordinal, F_READ_ordinal⟩)) hZ (hw _ (List.mem_of_getElem? (i := 12) rfl)) (hw _ (List.mem_of_getElem? (i := 6) rfl)) (by decide) (by decide)) q2a q2c (g := (mkF m 14 #[.val (.int p0), .val (.int (4 : Int32)), .val (.ref w_RANGE), .unset, .unset, .unset, .unset] [(.ref w_RANGE)])) rfl (by rw [hml]; rfl) (Steps.refl _) (argsL := []) (rest := []) (lenOf pd___Z rfl) rfl (by show 2 * 0 + _ ≤ _; exact Nat.le_of_eq rfl) (hb hby at_14) (fun _ _ => ⟨rfl, e1, (by decide : 0 + 0 ≤ _), (by decide : 0 + 0 ≤ _)⟩)
  dsimp only [Pt.U, Pt.locs, Pt.cells, Pt.slots] at X2 l2 y2 z2 st2 hQ2
  subst l2 y2 z2
  obtain ⟨rfl, N2q, e2⟩ := hQ2
  have N2 := Fr.app N1 N2q
  refine own_tr st2 ?_
  show own_Fin p e below _ (T2.setTop (mkF m 17 #[.val (.int p0), .val (.int (4 : Int32)), .val (.ref w_RANGE), .unset, .unset, .unset, .unset] [(.int (1 : Int32))]))
  refine own_st (fun t k => XS.istoreN X2.here hx rfl (hb hby at_17) rfl (l' := #[.val (.int p0), .val (.int (4 : Int32)), .val (.ref w_RANGE), .val (.int (1 : Int32)), .unset, .unset, .unset]) rfl k) ?_
  show own_Fin p e below _ (T2.setTop (mkF m 18 #[.val (.int p0), .val (.int (4 : Int32)), .val (.ref w_RANGE), .val (.int (1 : Int32)), .unset, .unset, .unset] []))
  refine own_st (fun t k => XS.iloadN X2.here hx rfl (hb hby at_18) rfl k) ?_
  show own_Fin p e below _ (T2.setTop (mkF m 19 #[.val (.int p0), .val (.int (4 : Int32)), .val (.ref w_RANGE), .val (.int (1 : Int32)), .unset, .unset, .unset] [(.int (4 : Int32))]))
  refine own_st (fun t k => XS.ifNo X2.here hx rfl (hb hby at_19) rfl (by decide) k) ?_
  show own_Fin p e below _ (T2.setTop (mkF m 22 #[.val (.int p0), .val (.int (4 : Int32)), .val (.ref w_RANGE), .val (.int (1 : Int32)), .unset, .unset, .unset] []))
  refine own_st (fun t k => XS.iloadN X2.here hx rfl (hb hby at_22) rfl k) ?_
  show own_Fin p e below _ (T2.setTop (mkF m 23 #[.val (.int p0), .val (.int (4 : Int32)), .val (.ref w_RANGE), .val (.int (1 : Int32)), .unset, .unset, .unset] [(.int (4 : Int32))]))
  refine own_st (fun t k => XS.iconst X2.here hx rfl (hb hby at_23) k) ?_
  show own_Fin p e below _ (T2.setTop (mkF m 24 #[.val (.int p0), .val (.int (4 : Int32)), .val (.ref w_RANGE), .val (.int (1 : Int32)), .unset, .unset, .unset] [(.int (4 : Int32)), (.int (4 : Int32))]))
  refine own_st (fun t k => XS.icmpNo X2.here hx rfl (hb hby at_24) rfl (by decide) k) ?_
  show own_Fin p e below _ (T2.setTop (mkF m 27 #[.val (.int p0), .val (.int (4 : Int32)), .val (.ref w_RANGE), .val (.int (1 : Int32)), .unset, .unset, .unset] []))
  refine own_st (fun t k => XS.iconst X2.here hx rfl (hb hby at_27) k) ?_
  show own_Fin p e below _ (T2.setTop (mkF m 28 #[.val (.int p0), .val (.int (4 : Int32)), .val (.ref w_RANGE), .val (.int (1 : Int32)), .unset, .unset, .unset] [(.int (1 : Int32))]))
  refine own_st (fun t k => XS.goto X2.here hx rfl (pc0 := 28) (pc' := 32) rfl (hb hby at_28) (by decide) (by decide) k) ?_
  show own_Fin p e below _ (T2.setTop (mkF m 32 #[.val (.int p0), .val (.int (4 : Int32)), .val (.ref w_RANGE), .val (.int (1 : Int32)), .unset, .unset, .unset] [(.int (1 : Int32))]))
  refine own_st (fun t k => XS.istore X2.here hx rfl (hb hby at_32) rfl (l' := #[.val (.int p0), .val (.int (4 : Int32)), .val (.ref w_RANGE), .val (.int (1 : Int32)), .val (.int (1 : Int32)), .unset, .unset]) rfl k) ?_
  show own_Fin p e below _ (T2.setTop (mkF m 34 #[.val (.int p0), .val (.int (4 : Int32)), .val (.ref w_RANGE), .val (.int (1 : Int32)), .val (.int (1 : Int32)), .unset, .unset] []))
  refine own_st (fun t k => XS.aloadN X2.here hx rfl (hb hby at_34) rfl rfl k) ?_
  show own_Fin p e below _ (T2.setTop (mkF m 35 #[.val (.int p0), .val (.int (4 : Int32)), .val (.ref w_RANGE), .val (.int (1 : Int32)), .val (.int (1 : Int32)), .unset, .unset] [(.ref w_RANGE)]))
  obtain ⟨cq3, kq3, q3a, q3b, q3c⟩ := isOf hZ e2 E_RANGE
  obtain ⟨_, _, ⟨T3, L3, k3, n3⟩, -, X3, ⟨Lc3, hQ3, l3, y3, z3⟩, st3⟩ := X2.virtualBack hx (y := (⟨"com/example/uni_lock/unilock/cli/Command", "takesDelete", "()Z"⟩ : MethodName)) (z := (⟨"com/example/uni_lock/unilock/cli/Command", "takesDelete", "()Z"⟩ : MethodName)) hown (mvT hZ (hw _ (List.mem_of_getElem? (i := 14) rfl))) (mvT hZ (hw _ (List.mem_of_getElem? (i := 15) rfl))) (notFace_of_selects (args := #[]) (mvT hZ (hw _ (List.mem_of_getElem? (i := 17) rfl)))) (mvT hZ (hw _ (List.mem_of_getElem? (i := 17) rfl))) (mvT hZ (hw _ (List.mem_of_getElem? (i := 16) rfl))) (by decide) (backOf (W := 0) (rm3_w_RANGE l Z a0 hw [] w_PATH w_STATUS w_COMMIT w_RANGE w_WRITE w_READ h0 n0 (by exact ⟨S_PATH, E_PATH, S_STATUS, E_STATUS, S_COMMIT, E_COMMIT, S_RANGE, E_RANGE, S_WRITE, E_WRITE, S_READ, E_READ, F_PATH_ordinal, F_STATUS_ordinal, F_COMMIT_ordinal, F_RANGE_ordinal, F_WRITE_ordinal, F_READ_ordinal⟩)) hZ (hw _ (List.mem_of_getElem? (i := 18) rfl)) (hw _ (List.mem_of_getElem? (i := 6) rfl)) (by decide) (by decide)) q3a q3c (g := (mkF m 35 #[.val (.int p0), .val (.int (4 : Int32)), .val (.ref w_RANGE), .val (.int (1 : Int32)), .val (.int (1 : Int32)), .unset, .unset] [(.ref w_RANGE)])) rfl (by rw [hml]; rfl) (Steps.refl _) (argsL := []) (rest := []) (lenOf pd___Z rfl) rfl (by show 2 * 0 + _ ≤ _; exact Nat.le_of_eq rfl) (hb hby at_35) (fun _ _ => ⟨rfl, e2, (by decide : 0 + 0 ≤ _), (by decide : 0 + 0 ≤ _)⟩)
  dsimp only [Pt.U, Pt.locs, Pt.cells, Pt.slots] at X3 l3 y3 z3 st3 hQ3
  subst l3 y3 z3
  obtain ⟨rfl, N3q, e3⟩ := hQ3
  have N3 := Fr.app N2 N3q
  refine own_tr st3 ?_
  show own_Fin p e below _ (T3.setTop (mkF m 38 #[.val (.int p0), .val (.int (4 : Int32)), .val (.ref w_RANGE), .val (.int (1 : Int32)), .val (.int (1 : Int32)), .unset, .unset] [(.int (0 : Int32))]))
  refine own_st (fun t k => XS.ifNo X3.here hx rfl (hb hby at_38) rfl (by decide) k) ?_
  show own_Fin p e below _ (T3.setTop (mkF m 41 #[.val (.int p0), .val (.int (4 : Int32)), .val (.ref w_RANGE), .val (.int (1 : Int32)), .val (.int (1 : Int32)), .unset, .unset] []))
  refine own_st (fun t k => XS.aloadN X3.here hx rfl (hb hby at_41) rfl rfl k) ?_
  show own_Fin p e below _ (T3.setTop (mkF m 42 #[.val (.int p0), .val (.int (4 : Int32)), .val (.ref w_RANGE), .val (.int (1 : Int32)), .val (.int (1 : Int32)), .unset, .unset] [(.ref w_RANGE)]))
  obtain ⟨cq4, kq4, q4a, q4b, q4c⟩ := isOf hZ e3 E_RANGE
  obtain ⟨_, _, ⟨T4, L4, k4, n4⟩, -, X4, ⟨Lc4, hQ4, l4, y4, z4⟩, st4⟩ := X3.virtualBack hx (y := (⟨"com/example/uni_lock/unilock/cli/Command", "takesRange", "()Z"⟩ : MethodName)) (z := (⟨"com/example/uni_lock/unilock/cli/Command", "takesRange", "()Z"⟩ : MethodName)) hown (mvT hZ (hw _ (List.mem_of_getElem? (i := 30) rfl))) (mvT hZ (hw _ (List.mem_of_getElem? (i := 31) rfl))) (notFace_of_selects (args := #[]) (mvT hZ (hw _ (List.mem_of_getElem? (i := 33) rfl)))) (mvT hZ (hw _ (List.mem_of_getElem? (i := 33) rfl))) (mvT hZ (hw _ (List.mem_of_getElem? (i := 32) rfl))) (by decide) (backOf (W := 0) (rm5_w_RANGE l Z a0 hw [] w_PATH w_STATUS w_COMMIT w_RANGE w_WRITE w_READ h0 n0 (by exact ⟨S_PATH, E_PATH, S_STATUS, E_STATUS, S_COMMIT, E_COMMIT, S_RANGE, E_RANGE, S_WRITE, E_WRITE, S_READ, E_READ, F_PATH_ordinal, F_STATUS_ordinal, F_COMMIT_ordinal, F_RANGE_ordinal, F_WRITE_ordinal, F_READ_ordinal⟩)) hZ (hw _ (List.mem_of_getElem? (i := 34) rfl)) (hw _ (List.mem_of_getElem? (i := 6) rfl)) (by decide) (by decide)) q4a q4c (g := (mkF m 42 #[.val (.int p0), .val (.int (4 : Int32)), .val (.ref w_RANGE), .val (.int (1 : Int32)), .val (.int (1 : Int32)), .unset, .unset] [(.ref w_RANGE)])) rfl (by rw [hml]; rfl) (Steps.refl _) (argsL := []) (rest := []) (lenOf pd___Z rfl) rfl (by show 2 * 0 + _ ≤ _; exact Nat.le_of_eq rfl) (hb hby at_42) (fun _ _ => ⟨rfl, e3, (by decide : 0 + 0 ≤ _), (by decide : 0 + 0 ≤ _)⟩)
  dsimp only [Pt.U, Pt.locs, Pt.cells, Pt.slots] at X4 l4 y4 z4 st4 hQ4
  subst l4 y4 z4
  obtain ⟨rfl, N4q, e4⟩ := hQ4
  have N4 := Fr.app N3 N4q
  refine own_tr st4 ?_
  show own_Fin p e below _ (T4.setTop (mkF m 45 #[.val (.int p0), .val (.int (4 : Int32)), .val (.ref w_RANGE), .val (.int (1 : Int32)), .val (.int (1 : Int32)), .unset, .unset] [(.int (1 : Int32))]))
  refine own_st (fun t k => XS.ifNo X4.here hx rfl (hb hby at_45) rfl (by decide) k) ?_
  show own_Fin p e below _ (T4.setTop (mkF m 48 #[.val (.int p0), .val (.int (4 : Int32)), .val (.ref w_RANGE), .val (.int (1 : Int32)), .val (.int (1 : Int32)), .unset, .unset] []))
  refine own_st (fun t k => XS.iconst X4.here hx rfl (hb hby at_48) k) ?_
  show own_Fin p e below _ (T4.setTop (mkF m 49 #[.val (.int p0), .val (.int (4 : Int32)), .val (.ref w_RANGE), .val (.int (1 : Int32)), .val (.int (1 : Int32)), .unset, .unset] [(.int (1 : Int32))]))
  refine own_st (fun t k => XS.goto X4.here hx rfl (pc0 := 49) (pc' := 53) rfl (hb hby at_49) (by decide) (by decide) k) ?_
  show own_Fin p e below _ (T4.setTop (mkF m 53 #[.val (.int p0), .val (.int (4 : Int32)), .val (.ref w_RANGE), .val (.int (1 : Int32)), .val (.int (1 : Int32)), .unset, .unset] [(.int (1 : Int32))]))
  refine own_st (fun t k => XS.istore X4.here hx rfl (hb hby at_53) rfl (l' := #[.val (.int p0), .val (.int (4 : Int32)), .val (.ref w_RANGE), .val (.int (1 : Int32)), .val (.int (1 : Int32)), .val (.int (1 : Int32)), .unset]) rfl k) ?_
  show own_Fin p e below _ (T4.setTop (mkF m 55 #[.val (.int p0), .val (.int (4 : Int32)), .val (.ref w_RANGE), .val (.int (1 : Int32)), .val (.int (1 : Int32)), .val (.int (1 : Int32)), .unset] []))
  refine own_st (fun t k => XS.iloadN X4.here hx rfl (hb hby at_55) rfl k) ?_
  show own_Fin p e below _ (T4.setTop (mkF m 56 #[.val (.int p0), .val (.int (4 : Int32)), .val (.ref w_RANGE), .val (.int (1 : Int32)), .val (.int (1 : Int32)), .val (.int (1 : Int32)), .unset] [(.int (1 : Int32))]))
  refine own_st (fun t k => XS.ifNo X4.here hx rfl (hb hby at_56) rfl (by decide) k) ?_
  show own_Fin p e below _ (T4.setTop (mkF m 59 #[.val (.int p0), .val (.int (4 : Int32)), .val (.ref w_RANGE), .val (.int (1 : Int32)), .val (.int (1 : Int32)), .val (.int (1 : Int32)), .unset] []))
  refine own_st (fun t k => XS.aloadN X4.here hx rfl (hb hby at_59) rfl rfl k) ?_
  show own_Fin p e below _ (T4.setTop (mkF m 60 #[.val (.int p0), .val (.int (4 : Int32)), .val (.ref w_RANGE), .val (.int (1 : Int32)), .val (.int (1 : Int32)), .val (.int (1 : Int32)), .unset] [(.ref w_RANGE)]))
  obtain ⟨cq5, kq5, q5a, q5b, q5c⟩ := isOf hZ e4 E_RANGE
  obtain ⟨_, _, ⟨T5, L5, k5, n5⟩, -, X5, ⟨Lc5, hQ5, l5, y5, z5⟩, st5⟩ := X4.virtualBack hx (y := (⟨"com/example/uni_lock/unilock/cli/Command", "locks", "()Z"⟩ : MethodName)) (z := (⟨"com/example/uni_lock/unilock/cli/Command", "locks", "()Z"⟩ : MethodName)) hown (mvT hZ (hw _ (List.mem_of_getElem? (i := 19) rfl))) (mvT hZ (hw _ (List.mem_of_getElem? (i := 20) rfl))) (notFace_of_selects (args := #[]) (mvT hZ (hw _ (List.mem_of_getElem? (i := 22) rfl)))) (mvT hZ (hw _ (List.mem_of_getElem? (i := 22) rfl))) (mvT hZ (hw _ (List.mem_of_getElem? (i := 21) rfl))) (by decide) (backOf (W := 0) (rm4_w_RANGE l Z a0 hw [] w_PATH w_STATUS w_COMMIT w_RANGE w_WRITE w_READ h0 n0 (by exact ⟨S_PATH, E_PATH, S_STATUS, E_STATUS, S_COMMIT, E_COMMIT, S_RANGE, E_RANGE, S_WRITE, E_WRITE, S_READ, E_READ, F_PATH_ordinal, F_STATUS_ordinal, F_COMMIT_ordinal, F_RANGE_ordinal, F_WRITE_ordinal, F_READ_ordinal⟩)) hZ (hw _ (List.mem_of_getElem? (i := 23) rfl)) (hw _ (List.mem_of_getElem? (i := 6) rfl)) (by decide) (by decide)) q5a q5c (g := (mkF m 60 #[.val (.int p0), .val (.int (4 : Int32)), .val (.ref w_RANGE), .val (.int (1 : Int32)), .val (.int (1 : Int32)), .val (.int (1 : Int32)), .unset] [(.ref w_RANGE)])) rfl (by rw [hml]; rfl) (Steps.refl _) (argsL := []) (rest := []) (lenOf pd___Z rfl) rfl (by show 2 * 0 + _ ≤ _; exact Nat.le_of_eq rfl) (hb hby at_60) (fun _ _ => ⟨rfl, e4, (by decide : 0 + 0 ≤ _), (by decide : 0 + 0 ≤ _)⟩)
  dsimp only [Pt.U, Pt.locs, Pt.cells, Pt.slots] at X5 l5 y5 z5 st5 hQ5
  subst l5 y5 z5
  obtain ⟨rfl, N5q, e5⟩ := hQ5
  have N5 := Fr.app N4 N5q
  refine own_tr st5 ?_
  show own_Fin p e below _ (T5.setTop (mkF m 63 #[.val (.int p0), .val (.int (4 : Int32)), .val (.ref w_RANGE), .val (.int (1 : Int32)), .val (.int (1 : Int32)), .val (.int (1 : Int32)), .unset] [(.int (1 : Int32))]))
  refine own_st (fun t k => XS.ifNo X5.here hx rfl (hb hby at_63) rfl (by decide) k) ?_
  show own_Fin p e below _ (T5.setTop (mkF m 66 #[.val (.int p0), .val (.int (4 : Int32)), .val (.ref w_RANGE), .val (.int (1 : Int32)), .val (.int (1 : Int32)), .val (.int (1 : Int32)), .unset] []))
  refine own_st (fun t k => XS.iconst X5.here hx rfl (hb hby at_66) k) ?_
  show own_Fin p e below _ (T5.setTop (mkF m 67 #[.val (.int p0), .val (.int (4 : Int32)), .val (.ref w_RANGE), .val (.int (1 : Int32)), .val (.int (1 : Int32)), .val (.int (1 : Int32)), .unset] [(.int (1 : Int32))]))
  refine own_st (fun t k => XS.goto X5.here hx rfl (pc0 := 67) (pc' := 71) rfl (hb hby at_67) (by decide) (by decide) k) ?_
  show own_Fin p e below _ (T5.setTop (mkF m 71 #[.val (.int p0), .val (.int (4 : Int32)), .val (.ref w_RANGE), .val (.int (1 : Int32)), .val (.int (1 : Int32)), .val (.int (1 : Int32)), .unset] [(.int (1 : Int32))]))
  refine own_st (fun t k => XS.istore X5.here hx rfl (hb hby at_71) rfl (l' := #[.val (.int p0), .val (.int (4 : Int32)), .val (.ref w_RANGE), .val (.int (1 : Int32)), .val (.int (1 : Int32)), .val (.int (1 : Int32)), .val (.int (1 : Int32))]) rfl k) ?_
  show own_Fin p e below _ (T5.setTop (mkF m 73 #[.val (.int p0), .val (.int (4 : Int32)), .val (.ref w_RANGE), .val (.int (1 : Int32)), .val (.int (1 : Int32)), .val (.int (1 : Int32)), .val (.int (1 : Int32))] []))
  refine own_st (fun t k => XS.iloadN X5.here hx rfl (hb hby at_73) rfl k) ?_
  show own_Fin p e below _ (T5.setTop (mkF m 74 #[.val (.int p0), .val (.int (4 : Int32)), .val (.ref w_RANGE), .val (.int (1 : Int32)), .val (.int (1 : Int32)), .val (.int (1 : Int32)), .val (.int (1 : Int32))] [(.int (1 : Int32))]))
  refine own_st (fun t k => XS.iload X5.here hx rfl (hb hby at_74) rfl k) ?_
  show own_Fin p e below _ (T5.setTop (mkF m 76 #[.val (.int p0), .val (.int (4 : Int32)), .val (.ref w_RANGE), .val (.int (1 : Int32)), .val (.int (1 : Int32)), .val (.int (1 : Int32)), .val (.int (1 : Int32))] [(.int (1 : Int32)), (.int (1 : Int32))]))
  refine own_st (fun t k => XS.icmpNo X5.here hx rfl (hb hby at_76) rfl (by decide) k) ?_
  show own_Fin p e below _ (T5.setTop (mkF m 79 #[.val (.int p0), .val (.int (4 : Int32)), .val (.ref w_RANGE), .val (.int (1 : Int32)), .val (.int (1 : Int32)), .val (.int (1 : Int32)), .val (.int (1 : Int32))] []))
  refine own_st (fun t k => XS.iloadN X5.here hx rfl (hb hby at_79) rfl k) ?_
  show own_Fin p e below _ (T5.setTop (mkF m 80 #[.val (.int p0), .val (.int (4 : Int32)), .val (.ref w_RANGE), .val (.int (1 : Int32)), .val (.int (1 : Int32)), .val (.int (1 : Int32)), .val (.int (1 : Int32))] [(.int (1 : Int32))]))
  refine own_st (fun t k => XS.iload X5.here hx rfl (hb hby at_80) rfl k) ?_
  show own_Fin p e below _ (T5.setTop (mkF m 82 #[.val (.int p0), .val (.int (4 : Int32)), .val (.ref w_RANGE), .val (.int (1 : Int32)), .val (.int (1 : Int32)), .val (.int (1 : Int32)), .val (.int (1 : Int32))] [(.int (1 : Int32)), (.int (1 : Int32))]))
  refine own_st (fun t k => XS.icmpNo X5.here hx rfl (hb hby at_82) rfl (by decide) k) ?_
  show own_Fin p e below _ (T5.setTop (mkF m 85 #[.val (.int p0), .val (.int (4 : Int32)), .val (.ref w_RANGE), .val (.int (1 : Int32)), .val (.int (1 : Int32)), .val (.int (1 : Int32)), .val (.int (1 : Int32))] []))
  refine own_st (fun t k => XS.iload X5.here hx rfl (hb hby at_85) rfl k) ?_
  show own_Fin p e below _ (T5.setTop (mkF m 87 #[.val (.int p0), .val (.int (4 : Int32)), .val (.ref w_RANGE), .val (.int (1 : Int32)), .val (.int (1 : Int32)), .val (.int (1 : Int32)), .val (.int (1 : Int32))] [(.int (1 : Int32))]))
  refine own_st (fun t k => XS.ifNo X5.here hx rfl (hb hby at_87) rfl (by decide) k) ?_
  show own_Fin p e below _ (T5.setTop (mkF m 90 #[.val (.int p0), .val (.int (4 : Int32)), .val (.ref w_RANGE), .val (.int (1 : Int32)), .val (.int (1 : Int32)), .val (.int (1 : Int32)), .val (.int (1 : Int32))] []))
  refine own_st (fun t k => XS.iconst X5.here hx rfl (hb hby at_90) k) ?_
  show own_Fin p e below _ (T5.setTop (mkF m 91 #[.val (.int p0), .val (.int (4 : Int32)), .val (.ref w_RANGE), .val (.int (1 : Int32)), .val (.int (1 : Int32)), .val (.int (1 : Int32)), .val (.int (1 : Int32))] [(.int (1 : Int32))]))
  refine own_st (fun t k => XS.goto X5.here hx rfl (pc0 := 91) (pc' := 95) rfl (hb hby at_91) (by decide) (by decide) k) ?_
  show own_Fin p e below _ (T5.setTop (mkF m 95 #[.val (.int p0), .val (.int (4 : Int32)), .val (.ref w_RANGE), .val (.int (1 : Int32)), .val (.int (1 : Int32)), .val (.int (1 : Int32)), .val (.int (1 : Int32))] [(.int (1 : Int32))]))
  obtain ⟨fs, hr, hrun, hended, hW, hsame⟩ := X5.leave (v := some (.int (1 : Int32))) (fun h => by rw [Bd.returns] at h; cases h)
  exact ⟨_, _, retN X5 hx (t := .boolean) Bd.returns (by simp) (hb hby at_95) hr, hrun, hended, _, _, rfl, ⟨rfl, N5, e5⟩, ⟨_, rfl⟩, hW, hsame.mono (by decide) (by decide)⟩
theorem d1_44 : decode method_2_code 44 = .ok (.getstatic 25, 3) := by decide +kernel
theorem d1_47 : decode method_2_code 47 = .ok (.areturn, 1) := by decide +kernel
set_option maxRecDepth 65536 in
set_option maxHeartbeats 40000000 in
theorem rm1_5 (l : Launch) (Z : State) (a0 : Array Value) (hw : ∀ d ∈ tables_1, d.before a0 Z = true) (ws : List Jvm.Cond) (w_PATH w_STATUS w_COMMIT w_RANGE w_WRITE w_READ : Addr) (h0 : Heap) (n0 : Nat) (PN : own_Pins Z h0 w_PATH w_STATUS w_COMMIT w_RANGE w_WRITE w_READ) :
    MetFree l (⟨"com/example/uni_lock/unilock/cli/CommandTakesSharedPinLaw", "pick", "(I)Lcom/example/uni_lock/unilock/cli/Command;"⟩ : MethodName) (head1 (Jvm.Cond.code (⟨"com/example/uni_lock/unilock/cli/CommandTakesSharedPinLaw", "pick", "(I)Lcom/example/uni_lock/unilock/cli/Command;"⟩ : MethodName) method_2_code 1 (some (.object "com/example/uni_lock/unilock/cli/Command")) :: ws) ({ frames := 0, cells := 0, slots := 0, locals := 0 } : Room)) (fun a U => a = #[(.int (5 : Int32))] ∧ Z.Warmed39 U.vm ∧ U.heap = h0) (fun _ _ _ _ _ => True) (fun _ U o U' => ∃ v L, o = .returned v ∧ own_Q h0 n0 (some (.ref w_STATUS)) v U'.heap L ∧ FrameEnd U o U' L ({ frames := 0, cells := 0, slots := 0, locals := 0 } : Room).cells ({ frames := 0, cells := 0, slots := 0, locals := 0 } : Room).slots) := by
  obtain ⟨S_PATH, E_PATH, S_STATUS, E_STATUS, S_COMMIT, E_COMMIT, S_RANGE, E_RANGE, S_WRITE, E_WRITE, S_READ, E_READ, F_PATH_ordinal, F_STATUS_ordinal, F_COMMIT_ordinal, F_RANGE_ordinal, F_WRITE_ordinal, F_READ_ordinal⟩ := PN
  refine MetFree.of_bodySF (plainFor_of_name pn_com_example_uni_lock_unilock_cli_CommandTakesSharedPinLaw) hisR ?_
  intro p e s m args below meth c s₁ Bd hml0 hP hK
  obtain ⟨rfl, hZ, hh⟩ := hP
  have hx := Bd.exec
  have hby := Bd.bytes
  have hml : c.maxLocals = 1 := hml0
  have hown : s.vm.findClass "com/example/uni_lock/unilock/cli/CommandTakesSharedPinLaw" = some m.cls := findClass_of_methodNamed Bd.named
  have X0 : Stand p l e ({ frames := 0, cells := 0, slots := 0, locals := 0 } : Room) s m #[(.int (5 : Int32))] below meth c s₁ [] 0 0 := Stand.of_body Bd
  have e0 : s₁.heap = h0 := by rw [← hh, Bd.state]; rfl
  have N0 := Fr.nil n0
  refine (?_ : own_Fin p e below _ _)
  refine own_st (fun t k => castTop (ef_1_I m (5 : Int32)) k) ?_
  show own_Fin p e below _ (s₁.setTop (mkF m 0 #[.val (.int (5 : Int32))] []))
  refine own_st (fun t k => XS.iloadN X0.here hx rfl (hb hby d1_0) rfl k) ?_
  show own_Fin p e below _ (s₁.setTop (mkF m 1 #[.val (.int (5 : Int32))] [(.int (5 : Int32))]))
  refine own_st (fun t k => XS.ifYes X0.here hx rfl (pc0 := 1) (pc' := 8) rfl (hb hby d1_1) rfl (by decide) (by decide) (by decide) k) ?_
  show own_Fin p e below _ (s₁.setTop (mkF m 8 #[.val (.int (5 : Int32))] []))
  refine own_st (fun t k => XS.iloadN X0.here hx rfl (hb hby d1_8) rfl k) ?_
  show own_Fin p e below _ (s₁.setTop (mkF m 9 #[.val (.int (5 : Int32))] [(.int (5 : Int32))]))
  refine own_st (fun t k => XS.iconst X0.here hx rfl (hb hby d1_9) k) ?_
  show own_Fin p e below _ (s₁.setTop (mkF m 10 #[.val (.int (5 : Int32))] [(.int (1 : Int32)), (.int (5 : Int32))]))
  refine own_st (fun t k => XS.icmpYes X0.here hx rfl (pc0 := 10) (pc' := 17) rfl (hb hby d1_10) rfl (by decide) (by decide) (by decide) k) ?_
  show own_Fin p e below _ (s₁.setTop (mkF m 17 #[.val (.int (5 : Int32))] []))
  refine own_st (fun t k => XS.iloadN X0.here hx rfl (hb hby d1_17) rfl k) ?_
  show own_Fin p e below _ (s₁.setTop (mkF m 18 #[.val (.int (5 : Int32))] [(.int (5 : Int32))]))
  refine own_st (fun t k => XS.iconst X0.here hx rfl (hb hby d1_18) k) ?_
  show own_Fin p e below _ (s₁.setTop (mkF m 19 #[.val (.int (5 : Int32))] [(.int (2 : Int32)), (.int (5 : Int32))]))
  refine own_st (fun t k => XS.icmpYes X0.here hx rfl (pc0 := 19) (pc' := 26) rfl (hb hby d1_19) rfl (by decide) (by decide) (by decide) k) ?_
  show own_Fin p e below _ (s₁.setTop (mkF m 26 #[.val (.int (5 : Int32))] []))
  refine own_st (fun t k => XS.iloadN X0.here hx rfl (hb hby d1_26) rfl k) ?_
  show own_Fin p e below _ (s₁.setTop (mkF m 27 #[.val (.int (5 : Int32))] [(.int (5 : Int32))]))
  refine own_st (fun t k => XS.iconst X0.here hx rfl (hb hby d1_27) k) ?_
  show own_Fin p e below _ (s₁.setTop (mkF m 28 #[.val (.int (5 : Int32))] [(.int (3 : Int32)), (.int (5 : Int32))]))
  refine own_st (fun t k => XS.icmpYes X0.here hx rfl (pc0 := 28) (pc' := 35) rfl (hb hby d1_28) rfl (by decide) (by decide) (by decide) k) ?_
  show own_Fin p e below _ (s₁.setTop (mkF m 35 #[.val (.int (5 : Int32))] []))
  refine own_st (fun t k => XS.iloadN X0.here hx rfl (hb hby d1_35) rfl k) ?_
  show own_Fin p e below _ (s₁.setTop (mkF m 36 #[.val (.int (5 : Int32))] [(.int (5 : Int32))]))
  refine own_st (fun t k => XS.iconst X0.here hx rfl (hb hby d1_36) k) ?_
  show own_Fin p e below _ (s₁.setTop (mkF m 37 #[.val (.int (5 : Int32))] [(.int (4 : Int32)), (.int (5 : Int32))]))
  refine own_st (fun t k => XS.icmpYes X0.here hx rfl (pc0 := 37) (pc' := 44) rfl (hb hby d1_37) rfl (by decide) (by decide) (by decide) k) ?_
  show own_Fin p e below _ (s₁.setTop (mkF m 44 #[.val (.int (5 : Int32))] []))
  obtain ⟨T1, X1, e1, st1⟩ := getS2 X0 hx hZ hown (host := "") (Or.inl (hw _ (List.mem_of_getElem? (i := 39) rfl))) Via.refl e0 S_STATUS (g := (mkF m 44 #[.val (.int (5 : Int32))] [])) rfl (hb hby d1_44)
  refine own_st st1 ?_
  show own_Fin p e below _ (T1.setTop (mkF m 47 #[.val (.int (5 : Int32))] [(.ref w_STATUS)]))
  obtain ⟨fs, hr, hrun, hended, hW, hsame⟩ := X1.leave (v := some (.ref w_STATUS)) (fun h => by rw [Bd.returns] at h; cases h)
  exact ⟨_, _, retOut X1 hx (t := (.object "com/example/uni_lock/unilock/cli/Command")) Bd.returns rfl (Or.inr (Or.inr (Or.inr (Or.inr ⟨rfl, rfl, rfl⟩)))) (hb hby d1_47) hr, hrun, hended, _, _, rfl, ⟨rfl, N0, e1⟩, ⟨_, rfl⟩, hW, hsame.mono (by decide) (by decide)⟩
set_option maxRecDepth 65536 in
set_option maxHeartbeats 40000000 in
theorem rm2_w_STATUS (l : Launch) (Z : State) (a0 : Array Value) (hw : ∀ d ∈ tables_1, d.before a0 Z = true) (ws : List Jvm.Cond) (w_PATH w_STATUS w_COMMIT w_RANGE w_WRITE w_READ : Addr) (h0 : Heap) (n0 : Nat) (PN : own_Pins Z h0 w_PATH w_STATUS w_COMMIT w_RANGE w_WRITE w_READ) :
    MetFree l (⟨"com/example/uni_lock/unilock/cli/Command", "takesShared", "()Z"⟩ : MethodName) (head1 (Jvm.Cond.code (⟨"com/example/uni_lock/unilock/cli/Command", "takesShared", "()Z"⟩ : MethodName) prog_1_method_7_code 1 (some .boolean) :: ws) ({ frames := 0, cells := 0, slots := 0, locals := 0 } : Room)) (fun a U => a = #[(.ref w_STATUS)] ∧ Z.Warmed39 U.vm ∧ U.heap = h0) (fun _ _ _ _ _ => True) (fun _ U o U' => ∃ v L, o = .returned v ∧ own_Q h0 n0 (some (.int (0 : Int32))) v U'.heap L ∧ FrameEnd U o U' L ({ frames := 0, cells := 0, slots := 0, locals := 0 } : Room).cells ({ frames := 0, cells := 0, slots := 0, locals := 0 } : Room).slots) := by
  obtain ⟨S_PATH, E_PATH, S_STATUS, E_STATUS, S_COMMIT, E_COMMIT, S_RANGE, E_RANGE, S_WRITE, E_WRITE, S_READ, E_READ, F_PATH_ordinal, F_STATUS_ordinal, F_COMMIT_ordinal, F_RANGE_ordinal, F_WRITE_ordinal, F_READ_ordinal⟩ := PN
  refine MetFree.of_bodySF (plainFor_of_name pn_com_example_uni_lock_unilock_cli_Command) hisR ?_
  intro p e s m args below meth c s₁ Bd hml0 hP hK
  obtain ⟨rfl, hZ, hh⟩ := hP
  have hx := Bd.exec
  have hby := Bd.bytes
  have hml : c.maxLocals = 1 := hml0
  have hown : s.vm.findClass "com/example/uni_lock/unilock/cli/Command" = some m.cls := findClass_of_methodNamed Bd.named
  have X0 : Stand p l e ({ frames := 0, cells := 0, slots := 0, locals := 0 } : Room) s m #[(.ref w_STATUS)] below meth c s₁ [] 0 0 := Stand.of_body Bd
  have e0 : s₁.heap = h0 := by rw [← hh, Bd.state]; rfl
  have N0 := Fr.nil n0
  refine (?_ : own_Fin p e below _ _)
  refine own_st (fun t k => castTop (ef_2_R m w_STATUS) k) ?_
  show own_Fin p e below _ (s₁.setTop (mkF m 0 #[.val (.ref w_STATUS)] []))
  refine own_st (fun t k => XS.aloadN X0.here hx rfl (hb hby d2_0) rfl rfl k) ?_
  show own_Fin p e below _ (s₁.setTop (mkF m 1 #[.val (.ref w_STATUS)] [(.ref w_STATUS)]))
  obtain ⟨T1, X1, e1, st1⟩ := getS2 X0 hx hZ hown (host := "") (Or.inl (hw _ (List.mem_of_getElem? (i := 13) rfl))) Via.refl e0 S_PATH (g := (mkF m 1 #[.val (.ref w_STATUS)] [(.ref w_STATUS)])) rfl (hb hby d2_1)
  refine own_st st1 ?_
  show own_Fin p e below _ (T1.setTop (mkF m 4 #[.val (.ref w_STATUS)] [(.ref w_PATH), (.ref w_STATUS)]))
  refine own_st (fun t k => Jvm.RoadKit.acmp (g := (mkF m 4 #[.val (.ref w_STATUS)] [(.ref w_PATH), (.ref w_STATUS)])) X1 hx rfl rfl rfl (pc0 := 4) (pc' := 7) (same := false) rfl (hb hby d2_4) rfl (decide_eq_false fun q => (Fld.ne F_STATUS_ordinal F_PATH_ordinal (by simp)) (Value.ref.inj q)) (by decide) (by decide) k) ?_
  show own_Fin p e below _ (T1.setTop (mkF m 7 #[.val (.ref w_STATUS)] []))
  refine own_st (fun t k => XS.aloadN X1.here hx rfl (hb hby d2_7) rfl rfl k) ?_
  show own_Fin p e below _ (T1.setTop (mkF m 8 #[.val (.ref w_STATUS)] [(.ref w_STATUS)]))
  obtain ⟨T2, X2, e2, st2⟩ := getS2 X1 hx hZ hown (host := "") (Or.inl (hw _ (List.mem_of_getElem? (i := 28) rfl))) Via.refl e1 S_RANGE (g := (mkF m 8 #[.val (.ref w_STATUS)] [(.ref w_STATUS)])) rfl (hb hby d2_8)
  refine own_st st2 ?_
  show own_Fin p e below _ (T2.setTop (mkF m 11 #[.val (.ref w_STATUS)] [(.ref w_RANGE), (.ref w_STATUS)]))
  refine own_st (fun t k => Jvm.RoadKit.acmp (g := (mkF m 11 #[.val (.ref w_STATUS)] [(.ref w_RANGE), (.ref w_STATUS)])) X2 hx rfl rfl rfl (pc0 := 11) (pc' := 18) (same := false) rfl (hb hby d2_11) rfl (decide_eq_false fun q => (Fld.ne F_STATUS_ordinal F_RANGE_ordinal (by simp)) (Value.ref.inj q)) (by decide) (by decide) k) ?_
  show own_Fin p e below _ (T2.setTop (mkF m 18 #[.val (.ref w_STATUS)] []))
  refine own_st (fun t k => XS.iconst X2.here hx rfl (hb hby d2_18) k) ?_
  show own_Fin p e below _ (T2.setTop (mkF m 19 #[.val (.ref w_STATUS)] [(.int (0 : Int32))]))
  obtain ⟨fs, hr, hrun, hended, hW, hsame⟩ := X2.leave (v := some (.int (0 : Int32))) (fun h => by rw [Bd.returns] at h; cases h)
  exact ⟨_, _, retN X2 hx (t := .boolean) Bd.returns (by simp) (hb hby d2_19) hr, hrun, hended, _, _, rfl, ⟨rfl, N0, e2⟩, ⟨_, rfl⟩, hW, hsame.mono (by decide) (by decide)⟩
set_option maxRecDepth 65536 in
set_option maxHeartbeats 40000000 in
theorem rm3_w_STATUS (l : Launch) (Z : State) (a0 : Array Value) (hw : ∀ d ∈ tables_1, d.before a0 Z = true) (ws : List Jvm.Cond) (w_PATH w_STATUS w_COMMIT w_RANGE w_WRITE w_READ : Addr) (h0 : Heap) (n0 : Nat) (PN : own_Pins Z h0 w_PATH w_STATUS w_COMMIT w_RANGE w_WRITE w_READ) :
    MetFree l (⟨"com/example/uni_lock/unilock/cli/Command", "takesDelete", "()Z"⟩ : MethodName) (head1 (Jvm.Cond.code (⟨"com/example/uni_lock/unilock/cli/Command", "takesDelete", "()Z"⟩ : MethodName) prog_1_method_8_code 1 (some .boolean) :: ws) ({ frames := 0, cells := 0, slots := 0, locals := 0 } : Room)) (fun a U => a = #[(.ref w_STATUS)] ∧ Z.Warmed39 U.vm ∧ U.heap = h0) (fun _ _ _ _ _ => True) (fun _ U o U' => ∃ v L, o = .returned v ∧ own_Q h0 n0 (some (.int (0 : Int32))) v U'.heap L ∧ FrameEnd U o U' L ({ frames := 0, cells := 0, slots := 0, locals := 0 } : Room).cells ({ frames := 0, cells := 0, slots := 0, locals := 0 } : Room).slots) := by
  obtain ⟨S_PATH, E_PATH, S_STATUS, E_STATUS, S_COMMIT, E_COMMIT, S_RANGE, E_RANGE, S_WRITE, E_WRITE, S_READ, E_READ, F_PATH_ordinal, F_STATUS_ordinal, F_COMMIT_ordinal, F_RANGE_ordinal, F_WRITE_ordinal, F_READ_ordinal⟩ := PN
  refine MetFree.of_bodySF (plainFor_of_name pn_com_example_uni_lock_unilock_cli_Command) hisR ?_
  intro p e s m args below meth c s₁ Bd hml0 hP hK
  obtain ⟨rfl, hZ, hh⟩ := hP
  have hx := Bd.exec
  have hby := Bd.bytes
  have hml : c.maxLocals = 1 := hml0
  have hown : s.vm.findClass "com/example/uni_lock/unilock/cli/Command" = some m.cls := findClass_of_methodNamed Bd.named
  have X0 : Stand p l e ({ frames := 0, cells := 0, slots := 0, locals := 0 } : Room) s m #[(.ref w_STATUS)] below meth c s₁ [] 0 0 := Stand.of_body Bd
  have e0 : s₁.heap = h0 := by rw [← hh, Bd.state]; rfl
  have N0 := Fr.nil n0
  refine (?_ : own_Fin p e below _ _)
  refine own_st (fun t k => castTop (ef_3_R m w_STATUS) k) ?_
  show own_Fin p e below _ (s₁.setTop (mkF m 0 #[.val (.ref w_STATUS)] []))
  refine own_st (fun t k => XS.aloadN X0.here hx rfl (hb hby d3_0) rfl rfl k) ?_
  show own_Fin p e below _ (s₁.setTop (mkF m 1 #[.val (.ref w_STATUS)] [(.ref w_STATUS)]))
  obtain ⟨T1, X1, e1, st1⟩ := getS2 X0 hx hZ hown (host := "") (Or.inl (hw _ (List.mem_of_getElem? (i := 13) rfl))) Via.refl e0 S_PATH (g := (mkF m 1 #[.val (.ref w_STATUS)] [(.ref w_STATUS)])) rfl (hb hby d3_1)
  refine own_st st1 ?_
  show own_Fin p e below _ (T1.setTop (mkF m 4 #[.val (.ref w_STATUS)] [(.ref w_PATH), (.ref w_STATUS)]))
  refine own_st (fun t k => Jvm.RoadKit.acmp (g := (mkF m 4 #[.val (.ref w_STATUS)] [(.ref w_PATH), (.ref w_STATUS)])) X1 hx rfl rfl rfl (pc0 := 4) (pc' := 11) (same := false) rfl (hb hby d3_4) rfl (decide_eq_false fun q => (Fld.ne F_STATUS_ordinal F_PATH_ordinal (by simp)) (Value.ref.inj q)) (by decide) (by decide) k) ?_
  show own_Fin p e below _ (T1.setTop (mkF m 11 #[.val (.ref w_STATUS)] []))
  refine own_st (fun t k => XS.iconst X1.here hx rfl (hb hby d3_11) k) ?_
  show own_Fin p e below _ (T1.setTop (mkF m 12 #[.val (.ref w_STATUS)] [(.int (0 : Int32))]))
  obtain ⟨fs, hr, hrun, hended, hW, hsame⟩ := X1.leave (v := some (.int (0 : Int32))) (fun h => by rw [Bd.returns] at h; cases h)
  exact ⟨_, _, retN X1 hx (t := .boolean) Bd.returns (by simp) (hb hby d3_12) hr, hrun, hended, _, _, rfl, ⟨rfl, N0, e1⟩, ⟨_, rfl⟩, hW, hsame.mono (by decide) (by decide)⟩
set_option maxRecDepth 65536 in
set_option maxHeartbeats 40000000 in
theorem rm5_w_STATUS (l : Launch) (Z : State) (a0 : Array Value) (hw : ∀ d ∈ tables_1, d.before a0 Z = true) (ws : List Jvm.Cond) (w_PATH w_STATUS w_COMMIT w_RANGE w_WRITE w_READ : Addr) (h0 : Heap) (n0 : Nat) (PN : own_Pins Z h0 w_PATH w_STATUS w_COMMIT w_RANGE w_WRITE w_READ) :
    MetFree l (⟨"com/example/uni_lock/unilock/cli/Command", "takesRange", "()Z"⟩ : MethodName) (head1 (Jvm.Cond.code (⟨"com/example/uni_lock/unilock/cli/Command", "takesRange", "()Z"⟩ : MethodName) prog_1_method_9_code 1 (some .boolean) :: ws) ({ frames := 0, cells := 0, slots := 0, locals := 0 } : Room)) (fun a U => a = #[(.ref w_STATUS)] ∧ Z.Warmed39 U.vm ∧ U.heap = h0) (fun _ _ _ _ _ => True) (fun _ U o U' => ∃ v L, o = .returned v ∧ own_Q h0 n0 (some (.int (0 : Int32))) v U'.heap L ∧ FrameEnd U o U' L ({ frames := 0, cells := 0, slots := 0, locals := 0 } : Room).cells ({ frames := 0, cells := 0, slots := 0, locals := 0 } : Room).slots) := by
  obtain ⟨S_PATH, E_PATH, S_STATUS, E_STATUS, S_COMMIT, E_COMMIT, S_RANGE, E_RANGE, S_WRITE, E_WRITE, S_READ, E_READ, F_PATH_ordinal, F_STATUS_ordinal, F_COMMIT_ordinal, F_RANGE_ordinal, F_WRITE_ordinal, F_READ_ordinal⟩ := PN
  refine MetFree.of_bodySF (plainFor_of_name pn_com_example_uni_lock_unilock_cli_Command) hisR ?_
  intro p e s m args below meth c s₁ Bd hml0 hP hK
  obtain ⟨rfl, hZ, hh⟩ := hP
  have hx := Bd.exec
  have hby := Bd.bytes
  have hml : c.maxLocals = 1 := hml0
  have hown : s.vm.findClass "com/example/uni_lock/unilock/cli/Command" = some m.cls := findClass_of_methodNamed Bd.named
  have X0 : Stand p l e ({ frames := 0, cells := 0, slots := 0, locals := 0 } : Room) s m #[(.ref w_STATUS)] below meth c s₁ [] 0 0 := Stand.of_body Bd
  have e0 : s₁.heap = h0 := by rw [← hh, Bd.state]; rfl
  have N0 := Fr.nil n0
  refine (?_ : own_Fin p e below _ _)
  refine own_st (fun t k => castTop (ef_5_R m w_STATUS) k) ?_
  show own_Fin p e below _ (s₁.setTop (mkF m 0 #[.val (.ref w_STATUS)] []))
  refine own_st (fun t k => XS.aloadN X0.here hx rfl (hb hby d5_0) rfl rfl k) ?_
  show own_Fin p e below _ (s₁.setTop (mkF m 1 #[.val (.ref w_STATUS)] [(.ref w_STATUS)]))
  obtain ⟨T1, X1, e1, st1⟩ := getS2 X0 hx hZ hown (host := "") (Or.inl (hw _ (List.mem_of_getElem? (i := 28) rfl))) Via.refl e0 S_RANGE (g := (mkF m 1 #[.val (.ref w_STATUS)] [(.ref w_STATUS)])) rfl (hb hby d5_1)
  refine own_st st1 ?_
  show own_Fin p e below _ (T1.setTop (mkF m 4 #[.val (.ref w_STATUS)] [(.ref w_RANGE), (.ref w_STATUS)]))
  refine own_st (fun t k => Jvm.RoadKit.acmp (g := (mkF m 4 #[.val (.ref w_STATUS)] [(.ref w_RANGE), (.ref w_STATUS)])) X1 hx rfl rfl rfl (pc0 := 4) (pc' := 11) (same := false) rfl (hb hby d5_4) rfl (decide_eq_false fun q => (Fld.ne F_STATUS_ordinal F_RANGE_ordinal (by simp)) (Value.ref.inj q)) (by decide) (by decide) k) ?_
  show own_Fin p e below _ (T1.setTop (mkF m 11 #[.val (.ref w_STATUS)] []))
  refine own_st (fun t k => XS.iconst X1.here hx rfl (hb hby d5_11) k) ?_
  show own_Fin p e below _ (T1.setTop (mkF m 12 #[.val (.ref w_STATUS)] [(.int (0 : Int32))]))
  obtain ⟨fs, hr, hrun, hended, hW, hsame⟩ := X1.leave (v := some (.int (0 : Int32))) (fun h => by rw [Bd.returns] at h; cases h)
  exact ⟨_, _, retN X1 hx (t := .boolean) Bd.returns (by simp) (hb hby d5_12) hr, hrun, hended, _, _, rfl, ⟨rfl, N0, e1⟩, ⟨_, rfl⟩, hW, hsame.mono (by decide) (by decide)⟩
set_option maxRecDepth 65536 in
set_option maxHeartbeats 40000000 in
theorem rm0_c5 (l : Launch) (Z : State) (a0 : Array Value) (hw : ∀ d ∈ tables_1, d.before a0 Z = true) (ws : List Jvm.Cond) (w_PATH w_STATUS w_COMMIT w_RANGE w_WRITE w_READ : Addr) (p0 : Int32) (h0 : Heap) (n0 : Nat) (PN : own_Pins Z h0 w_PATH w_STATUS w_COMMIT w_RANGE w_WRITE w_READ) (q0 : ((p0 &&& (2147483647 : Int32)) % (6 : Int32)) = (5 : Int32)) :
    MetFree l x (head1 (Jvm.Cond.code x code maxLocals ret :: ws) room_1) (fun a U => a = #[(.int p0)] ∧ Z.Warmed39 U.vm ∧ U.heap = h0) (fun _ _ _ _ _ => True) (fun _ U o U' => ∃ v L, o = .returned v ∧ own_Q h0 n0 (some (.int (1 : Int32))) v U'.heap L ∧ FrameEnd U o U' L room_1.cells room_1.slots) := by
  obtain ⟨S_PATH, E_PATH, S_STATUS, E_STATUS, S_COMMIT, E_COMMIT, S_RANGE, E_RANGE, S_WRITE, E_WRITE, S_READ, E_READ, F_PATH_ordinal, F_STATUS_ordinal, F_COMMIT_ordinal, F_RANGE_ordinal, F_WRITE_ordinal, F_READ_ordinal⟩ := PN
  refine MetFree.of_bodySF (plainFor_of_name pn_com_example_uni_lock_unilock_cli_CommandTakesSharedPinLaw) hisR ?_
  intro p e s m args below meth c s₁ Bd hml0 hP hK
  obtain ⟨rfl, hZ, hh⟩ := hP
  have hx := Bd.exec
  have hby := Bd.bytes
  have hml : c.maxLocals = 7 := hml0
  have hown : s.vm.findClass "com/example/uni_lock/unilock/cli/CommandTakesSharedPinLaw" = some m.cls := findClass_of_methodNamed Bd.named
  have X0 : Stand p l e room_1 s m #[(.int p0)] below meth c s₁ [] 0 0 := Stand.of_body Bd
  have e0 : s₁.heap = h0 := by rw [← hh, Bd.state]; rfl
  have N0 := Fr.nil n0
  refine (?_ : own_Fin p e below _ _)
  refine own_st (fun t k => castTop (ef_0_I m p0) k) ?_
  show own_Fin p e below _ (s₁.setTop (mkF m 0 #[.val (.int p0), .unset, .unset, .unset, .unset, .unset, .unset] []))
  refine own_st (fun t k => XS.iloadN X0.here hx rfl (hb hby at_0) rfl k) ?_
  show own_Fin p e below _ (s₁.setTop (mkF m 1 #[.val (.int p0), .unset, .unset, .unset, .unset, .unset, .unset] [(.int p0)]))
  refine own_st (fun t k => X0.ldcI hx hown (mvT hZ (hw _ (List.mem_of_getElem? (i := 0) rfl))) rfl (hb hby at_1) k) ?_
  show own_Fin p e below _ (s₁.setTop (mkF m 3 #[.val (.int p0), .unset, .unset, .unset, .unset, .unset, .unset] [(.int (2147483647 : Int32)), (.int p0)]))
  refine own_st (fun t k => XS.iand X0.here hx rfl (hb hby at_3) rfl k) ?_
  show own_Fin p e below _ (s₁.setTop (mkF m 4 #[.val (.int p0), .unset, .unset, .unset, .unset, .unset, .unset] [(.int (p0 &&& (2147483647 : Int32)))]))
  refine own_st (fun t k => XS.bipush X0.here hx rfl (hb hby at_4) k) ?_
  show own_Fin p e below _ (s₁.setTop (mkF m 6 #[.val (.int p0), .unset, .unset, .unset, .unset, .unset, .unset] [(.int (6 : Int32)), (.int (p0 &&& (2147483647 : Int32)))]))
  refine own_st (fun t k => iremM X0 hx rfl (hb hby at_6) rfl (by decide) k) ?_
  show own_Fin p e below _ (s₁.setTop (mkF m 7 #[.val (.int p0), .unset, .unset, .unset, .unset, .unset, .unset] [(.int ((p0 &&& (2147483647 : Int32)) % (6 : Int32)))]))
  rw [q0]
  show own_Fin p e below _ (s₁.setTop (mkF m 7 #[.val (.int p0), .unset, .unset, .unset, .unset, .unset, .unset] [(.int (5 : Int32))]))
  refine own_st (fun t k => XS.istoreN X0.here hx rfl (hb hby at_7) rfl (l' := #[.val (.int p0), .val (.int (5 : Int32)), .unset, .unset, .unset, .unset, .unset]) rfl k) ?_
  show own_Fin p e below _ (s₁.setTop (mkF m 8 #[.val (.int p0), .val (.int (5 : Int32)), .unset, .unset, .unset, .unset, .unset] []))
  refine own_st (fun t k => XS.iloadN X0.here hx rfl (hb hby at_8) rfl k) ?_
  show own_Fin p e below _ (s₁.setTop (mkF m 9 #[.val (.int p0), .val (.int (5 : Int32)), .unset, .unset, .unset, .unset, .unset] [(.int (5 : Int32))]))
  obtain ⟨_, _, ⟨T1, L1, k1, n1⟩, -, X1, ⟨Lc1, hQ1, l1, y1, z1⟩, st1⟩ := Jvm.LawKit.callS X0 hx (y := (⟨"com/example/uni_lock/unilock/cli/CommandTakesSharedPinLaw", "pick", "(I)Lcom/example/uni_lock/unilock/cli/Command;"⟩ : MethodName)) hown (mvT hZ (hw _ (List.mem_of_getElem? (i := 1) rfl))) (mvT hZ (hw _ (List.mem_of_getElem? (i := 2) rfl))) (mvT hZ (hw _ (List.mem_of_getElem? (i := 3) rfl))) (mvT hZ (hw _ (List.mem_of_getElem? (i := 4) rfl))) (by decide) (backOf (W := 0) (rm1_5 l Z a0 hw [] w_PATH w_STATUS w_COMMIT w_RANGE w_WRITE w_READ h0 n0 (by exact ⟨S_PATH, E_PATH, S_STATUS, E_STATUS, S_COMMIT, E_COMMIT, S_RANGE, E_RANGE, S_WRITE, E_WRITE, S_READ, E_READ, F_PATH_ordinal, F_STATUS_ordinal, F_COMMIT_ordinal, F_RANGE_ordinal, F_WRITE_ordinal, F_READ_ordinal⟩)) hZ (hw _ (List.mem_of_getElem? (i := 4) rfl)) (hw _ (List.mem_of_getElem? (i := 3) rfl)) (by decide) (by decide)) (g := (mkF m 9 #[.val (.int p0), .val (.int (5 : Int32)), .unset, .unset, .unset, .unset, .unset] [(.int (5 : Int32))])) rfl (by rw [hml]; rfl) (argsL := [(.int (5 : Int32))]) (rest := []) (lenOf pd__I_Lcom_example_uni_lock_unilock_cli_Command_ rfl) rfl (by show 2 * 0 + _ ≤ _; exact Nat.le_of_eq rfl) (hb hby at_9) (fun _ _ => ⟨rfl, e0, (by decide : 0 + 0 ≤ _), (by decide : 0 + 0 ≤ _)⟩)
  dsimp only [Pt.U, Pt.locs, Pt.cells, Pt.slots] at X1 l1 y1 z1 st1 hQ1
  subst l1 y1 z1
  obtain ⟨rfl, N1q, e1⟩ := hQ1
  have N1 := Fr.app N0 N1q
  refine own_st st1 ?_
  show own_Fin p e below _ (T1.setTop (mkF m 12 #[.val (.int p0), .val (.int (5 : Int32)), .unset, .unset, .unset, .unset, .unset] [(.ref w_STATUS)]))
  refine own_st (fun t k => XS.astoreN X1.here hx rfl (hb hby at_12) rfl rfl (l' := #[.val (.int p0), .val (.int (5 : Int32)), .val (.ref w_STATUS), .unset, .unset, .unset, .unset]) rfl k) ?_
  show own_Fin p e below _ (T1.setTop (mkF m 13 #[.val (.int p0), .val (.int (5 : Int32)), .val (.ref w_STATUS), .unset, .unset, .unset, .unset] []))
  refine own_st (fun t k => XS.aloadN X1.here hx rfl (hb hby at_13) rfl rfl k) ?_
  show own_Fin p e below _ (T1.setTop (mkF m 14 #[.val (.int p0), .val (.int (5 : Int32)), .val (.ref w_STATUS), .unset, .unset, .unset, .unset] [(.ref w_STATUS)]))
  obtain ⟨cq2, kq2, q2a, q2b, q2c⟩ := isOf hZ e1 E_STATUS
  obtain ⟨_, _, ⟨T2, L2, k2, n2⟩, -, X2, ⟨Lc2, hQ2, l2, y2, z2⟩, st2⟩ := X1.virtualBack hx (y := (⟨"com/example/uni_lock/unilock/cli/Command", "takesShared", "()Z"⟩ : MethodName)) (z := (⟨"com/example/uni_lock/unilock/cli/Command", "takesShared", "()Z"⟩ : MethodName)) hown (mvT hZ (hw _ (List.mem_of_getElem? (i := 8) rfl))) (mvT hZ (hw _ (List.mem_of_getElem? (i := 9) rfl))) (notFace_of_selects (args := #[]) (mvT hZ (hw _ (List.mem_of_getElem? (i := 11) rfl)))) (mvT hZ (hw _ (List.mem_of_getElem? (i := 11) rfl))) (mvT hZ (hw _ (List.mem_of_getElem? (i := 10) rfl))) (by decide) (backOf (W := 0) (rm2_w_STATUS l Z a0 hw [] w_PATH w_STATUS w_COMMIT w_RANGE w_WRITE w_READ h0 n0 (by exact ⟨S_PATH, E_PATH, S_STATUS, E_STATUS, S_COMMIT, E_COMMIT, S_RANGE, E_RANGE, S_WRITE, E_WRITE, S_READ, E_READ, F_PATH_ordinal, F_STATUS_ordinal, F_COMMIT_ordinal, F_RANGE_ordinal, F_WRITE_ordinal, F_READ_ordinal⟩)) hZ (hw _ (List.mem_of_getElem? (i := 12) rfl)) (hw _ (List.mem_of_getElem? (i := 6) rfl)) (by decide) (by decide)) q2a q2c (g := (mkF m 14 #[.val (.int p0), .val (.int (5 : Int32)), .val (.ref w_STATUS), .unset, .unset, .unset, .unset] [(.ref w_STATUS)])) rfl (by rw [hml]; rfl) (Steps.refl _) (argsL := []) (rest := []) (lenOf pd___Z rfl) rfl (by show 2 * 0 + _ ≤ _; exact Nat.le_of_eq rfl) (hb hby at_14) (fun _ _ => ⟨rfl, e1, (by decide : 0 + 0 ≤ _), (by decide : 0 + 0 ≤ _)⟩)
  dsimp only [Pt.U, Pt.locs, Pt.cells, Pt.slots] at X2 l2 y2 z2 st2 hQ2
  subst l2 y2 z2
  obtain ⟨rfl, N2q, e2⟩ := hQ2
  have N2 := Fr.app N1 N2q
  refine own_tr st2 ?_
  show own_Fin p e below _ (T2.setTop (mkF m 17 #[.val (.int p0), .val (.int (5 : Int32)), .val (.ref w_STATUS), .unset, .unset, .unset, .unset] [(.int (0 : Int32))]))
  refine own_st (fun t k => XS.istoreN X2.here hx rfl (hb hby at_17) rfl (l' := #[.val (.int p0), .val (.int (5 : Int32)), .val (.ref w_STATUS), .val (.int (0 : Int32)), .unset, .unset, .unset]) rfl k) ?_
  show own_Fin p e below _ (T2.setTop (mkF m 18 #[.val (.int p0), .val (.int (5 : Int32)), .val (.ref w_STATUS), .val (.int (0 : Int32)), .unset, .unset, .unset] []))
  refine own_st (fun t k => XS.iloadN X2.here hx rfl (hb hby at_18) rfl k) ?_
  show own_Fin p e below _ (T2.setTop (mkF m 19 #[.val (.int p0), .val (.int (5 : Int32)), .val (.ref w_STATUS), .val (.int (0 : Int32)), .unset, .unset, .unset] [(.int (5 : Int32))]))
  refine own_st (fun t k => XS.ifNo X2.here hx rfl (hb hby at_19) rfl (by decide) k) ?_
  show own_Fin p e below _ (T2.setTop (mkF m 22 #[.val (.int p0), .val (.int (5 : Int32)), .val (.ref w_STATUS), .val (.int (0 : Int32)), .unset, .unset, .unset] []))
  refine own_st (fun t k => XS.iloadN X2.here hx rfl (hb hby at_22) rfl k) ?_
  show own_Fin p e below _ (T2.setTop (mkF m 23 #[.val (.int p0), .val (.int (5 : Int32)), .val (.ref w_STATUS), .val (.int (0 : Int32)), .unset, .unset, .unset] [(.int (5 : Int32))]))
  refine own_st (fun t k => XS.iconst X2.here hx rfl (hb hby at_23) k) ?_
  show own_Fin p e below _ (T2.setTop (mkF m 24 #[.val (.int p0), .val (.int (5 : Int32)), .val (.ref w_STATUS), .val (.int (0 : Int32)), .unset, .unset, .unset] [(.int (4 : Int32)), (.int (5 : Int32))]))
  refine own_st (fun t k => XS.icmpYes X2.here hx rfl (pc0 := 24) (pc' := 31) rfl (hb hby at_24) rfl (by decide) (by decide) (by decide) k) ?_
  show own_Fin p e below _ (T2.setTop (mkF m 31 #[.val (.int p0), .val (.int (5 : Int32)), .val (.ref w_STATUS), .val (.int (0 : Int32)), .unset, .unset, .unset] []))
  refine own_st (fun t k => XS.iconst X2.here hx rfl (hb hby at_31) k) ?_
  show own_Fin p e below _ (T2.setTop (mkF m 32 #[.val (.int p0), .val (.int (5 : Int32)), .val (.ref w_STATUS), .val (.int (0 : Int32)), .unset, .unset, .unset] [(.int (0 : Int32))]))
  refine own_st (fun t k => XS.istore X2.here hx rfl (hb hby at_32) rfl (l' := #[.val (.int p0), .val (.int (5 : Int32)), .val (.ref w_STATUS), .val (.int (0 : Int32)), .val (.int (0 : Int32)), .unset, .unset]) rfl k) ?_
  show own_Fin p e below _ (T2.setTop (mkF m 34 #[.val (.int p0), .val (.int (5 : Int32)), .val (.ref w_STATUS), .val (.int (0 : Int32)), .val (.int (0 : Int32)), .unset, .unset] []))
  refine own_st (fun t k => XS.aloadN X2.here hx rfl (hb hby at_34) rfl rfl k) ?_
  show own_Fin p e below _ (T2.setTop (mkF m 35 #[.val (.int p0), .val (.int (5 : Int32)), .val (.ref w_STATUS), .val (.int (0 : Int32)), .val (.int (0 : Int32)), .unset, .unset] [(.ref w_STATUS)]))
  obtain ⟨cq3, kq3, q3a, q3b, q3c⟩ := isOf hZ e2 E_STATUS
  obtain ⟨_, _, ⟨T3, L3, k3, n3⟩, -, X3, ⟨Lc3, hQ3, l3, y3, z3⟩, st3⟩ := X2.virtualBack hx (y := (⟨"com/example/uni_lock/unilock/cli/Command", "takesDelete", "()Z"⟩ : MethodName)) (z := (⟨"com/example/uni_lock/unilock/cli/Command", "takesDelete", "()Z"⟩ : MethodName)) hown (mvT hZ (hw _ (List.mem_of_getElem? (i := 14) rfl))) (mvT hZ (hw _ (List.mem_of_getElem? (i := 15) rfl))) (notFace_of_selects (args := #[]) (mvT hZ (hw _ (List.mem_of_getElem? (i := 17) rfl)))) (mvT hZ (hw _ (List.mem_of_getElem? (i := 17) rfl))) (mvT hZ (hw _ (List.mem_of_getElem? (i := 16) rfl))) (by decide) (backOf (W := 0) (rm3_w_STATUS l Z a0 hw [] w_PATH w_STATUS w_COMMIT w_RANGE w_WRITE w_READ h0 n0 (by exact ⟨S_PATH, E_PATH, S_STATUS, E_STATUS, S_COMMIT, E_COMMIT, S_RANGE, E_RANGE, S_WRITE, E_WRITE, S_READ, E_READ, F_PATH_ordinal, F_STATUS_ordinal, F_COMMIT_ordinal, F_RANGE_ordinal, F_WRITE_ordinal, F_READ_ordinal⟩)) hZ (hw _ (List.mem_of_getElem? (i := 18) rfl)) (hw _ (List.mem_of_getElem? (i := 6) rfl)) (by decide) (by decide)) q3a q3c (g := (mkF m 35 #[.val (.int p0), .val (.int (5 : Int32)), .val (.ref w_STATUS), .val (.int (0 : Int32)), .val (.int (0 : Int32)), .unset, .unset] [(.ref w_STATUS)])) rfl (by rw [hml]; rfl) (Steps.refl _) (argsL := []) (rest := []) (lenOf pd___Z rfl) rfl (by show 2 * 0 + _ ≤ _; exact Nat.le_of_eq rfl) (hb hby at_35) (fun _ _ => ⟨rfl, e2, (by decide : 0 + 0 ≤ _), (by decide : 0 + 0 ≤ _)⟩)
  dsimp only [Pt.U, Pt.locs, Pt.cells, Pt.slots] at X3 l3 y3 z3 st3 hQ3
  subst l3 y3 z3
  obtain ⟨rfl, N3q, e3⟩ := hQ3
  have N3 := Fr.app N2 N3q
  refine own_tr st3 ?_
  show own_Fin p e below _ (T3.setTop (mkF m 38 #[.val (.int p0), .val (.int (5 : Int32)), .val (.ref w_STATUS), .val (.int (0 : Int32)), .val (.int (0 : Int32)), .unset, .unset] [(.int (0 : Int32))]))
  refine own_st (fun t k => XS.ifNo X3.here hx rfl (hb hby at_38) rfl (by decide) k) ?_
  show own_Fin p e below _ (T3.setTop (mkF m 41 #[.val (.int p0), .val (.int (5 : Int32)), .val (.ref w_STATUS), .val (.int (0 : Int32)), .val (.int (0 : Int32)), .unset, .unset] []))
  refine own_st (fun t k => XS.aloadN X3.here hx rfl (hb hby at_41) rfl rfl k) ?_
  show own_Fin p e below _ (T3.setTop (mkF m 42 #[.val (.int p0), .val (.int (5 : Int32)), .val (.ref w_STATUS), .val (.int (0 : Int32)), .val (.int (0 : Int32)), .unset, .unset] [(.ref w_STATUS)]))
  obtain ⟨cq4, kq4, q4a, q4b, q4c⟩ := isOf hZ e3 E_STATUS
  obtain ⟨_, _, ⟨T4, L4, k4, n4⟩, -, X4, ⟨Lc4, hQ4, l4, y4, z4⟩, st4⟩ := X3.virtualBack hx (y := (⟨"com/example/uni_lock/unilock/cli/Command", "takesRange", "()Z"⟩ : MethodName)) (z := (⟨"com/example/uni_lock/unilock/cli/Command", "takesRange", "()Z"⟩ : MethodName)) hown (mvT hZ (hw _ (List.mem_of_getElem? (i := 30) rfl))) (mvT hZ (hw _ (List.mem_of_getElem? (i := 31) rfl))) (notFace_of_selects (args := #[]) (mvT hZ (hw _ (List.mem_of_getElem? (i := 33) rfl)))) (mvT hZ (hw _ (List.mem_of_getElem? (i := 33) rfl))) (mvT hZ (hw _ (List.mem_of_getElem? (i := 32) rfl))) (by decide) (backOf (W := 0) (rm5_w_STATUS l Z a0 hw [] w_PATH w_STATUS w_COMMIT w_RANGE w_WRITE w_READ h0 n0 (by exact ⟨S_PATH, E_PATH, S_STATUS, E_STATUS, S_COMMIT, E_COMMIT, S_RANGE, E_RANGE, S_WRITE, E_WRITE, S_READ, E_READ, F_PATH_ordinal, F_STATUS_ordinal, F_COMMIT_ordinal, F_RANGE_ordinal, F_WRITE_ordinal, F_READ_ordinal⟩)) hZ (hw _ (List.mem_of_getElem? (i := 34) rfl)) (hw _ (List.mem_of_getElem? (i := 6) rfl)) (by decide) (by decide)) q4a q4c (g := (mkF m 42 #[.val (.int p0), .val (.int (5 : Int32)), .val (.ref w_STATUS), .val (.int (0 : Int32)), .val (.int (0 : Int32)), .unset, .unset] [(.ref w_STATUS)])) rfl (by rw [hml]; rfl) (Steps.refl _) (argsL := []) (rest := []) (lenOf pd___Z rfl) rfl (by show 2 * 0 + _ ≤ _; exact Nat.le_of_eq rfl) (hb hby at_42) (fun _ _ => ⟨rfl, e3, (by decide : 0 + 0 ≤ _), (by decide : 0 + 0 ≤ _)⟩)
  dsimp only [Pt.U, Pt.locs, Pt.cells, Pt.slots] at X4 l4 y4 z4 st4 hQ4
  subst l4 y4 z4
  obtain ⟨rfl, N4q, e4⟩ := hQ4
  have N4 := Fr.app N3 N4q
  refine own_tr st4 ?_
  show own_Fin p e below _ (T4.setTop (mkF m 45 #[.val (.int p0), .val (.int (5 : Int32)), .val (.ref w_STATUS), .val (.int (0 : Int32)), .val (.int (0 : Int32)), .unset, .unset] [(.int (0 : Int32))]))
  refine own_st (fun t k => XS.ifYes X4.here hx rfl (pc0 := 45) (pc' := 52) rfl (hb hby at_45) rfl (by decide) (by decide) (by decide) k) ?_
  show own_Fin p e below _ (T4.setTop (mkF m 52 #[.val (.int p0), .val (.int (5 : Int32)), .val (.ref w_STATUS), .val (.int (0 : Int32)), .val (.int (0 : Int32)), .unset, .unset] []))
  refine own_st (fun t k => XS.iconst X4.here hx rfl (hb hby at_52) k) ?_
  show own_Fin p e below _ (T4.setTop (mkF m 53 #[.val (.int p0), .val (.int (5 : Int32)), .val (.ref w_STATUS), .val (.int (0 : Int32)), .val (.int (0 : Int32)), .unset, .unset] [(.int (0 : Int32))]))
  refine own_st (fun t k => XS.istore X4.here hx rfl (hb hby at_53) rfl (l' := #[.val (.int p0), .val (.int (5 : Int32)), .val (.ref w_STATUS), .val (.int (0 : Int32)), .val (.int (0 : Int32)), .val (.int (0 : Int32)), .unset]) rfl k) ?_
  show own_Fin p e below _ (T4.setTop (mkF m 55 #[.val (.int p0), .val (.int (5 : Int32)), .val (.ref w_STATUS), .val (.int (0 : Int32)), .val (.int (0 : Int32)), .val (.int (0 : Int32)), .unset] []))
  refine own_st (fun t k => XS.iloadN X4.here hx rfl (hb hby at_55) rfl k) ?_
  show own_Fin p e below _ (T4.setTop (mkF m 56 #[.val (.int p0), .val (.int (5 : Int32)), .val (.ref w_STATUS), .val (.int (0 : Int32)), .val (.int (0 : Int32)), .val (.int (0 : Int32)), .unset] [(.int (0 : Int32))]))
  refine own_st (fun t k => XS.ifYes X4.here hx rfl (pc0 := 56) (pc' := 66) rfl (hb hby at_56) rfl (by decide) (by decide) (by decide) k) ?_
  show own_Fin p e below _ (T4.setTop (mkF m 66 #[.val (.int p0), .val (.int (5 : Int32)), .val (.ref w_STATUS), .val (.int (0 : Int32)), .val (.int (0 : Int32)), .val (.int (0 : Int32)), .unset] []))
  refine own_st (fun t k => XS.iconst X4.here hx rfl (hb hby at_66) k) ?_
  show own_Fin p e below _ (T4.setTop (mkF m 67 #[.val (.int p0), .val (.int (5 : Int32)), .val (.ref w_STATUS), .val (.int (0 : Int32)), .val (.int (0 : Int32)), .val (.int (0 : Int32)), .unset] [(.int (1 : Int32))]))
  refine own_st (fun t k => XS.goto X4.here hx rfl (pc0 := 67) (pc' := 71) rfl (hb hby at_67) (by decide) (by decide) k) ?_
  show own_Fin p e below _ (T4.setTop (mkF m 71 #[.val (.int p0), .val (.int (5 : Int32)), .val (.ref w_STATUS), .val (.int (0 : Int32)), .val (.int (0 : Int32)), .val (.int (0 : Int32)), .unset] [(.int (1 : Int32))]))
  refine own_st (fun t k => XS.istore X4.here hx rfl (hb hby at_71) rfl (l' := #[.val (.int p0), .val (.int (5 : Int32)), .val (.ref w_STATUS), .val (.int (0 : Int32)), .val (.int (0 : Int32)), .val (.int (0 : Int32)), .val (.int (1 : Int32))]) rfl k) ?_
  show own_Fin p e below _ (T4.setTop (mkF m 73 #[.val (.int p0), .val (.int (5 : Int32)), .val (.ref w_STATUS), .val (.int (0 : Int32)), .val (.int (0 : Int32)), .val (.int (0 : Int32)), .val (.int (1 : Int32))] []))
  refine own_st (fun t k => XS.iloadN X4.here hx rfl (hb hby at_73) rfl k) ?_
  show own_Fin p e below _ (T4.setTop (mkF m 74 #[.val (.int p0), .val (.int (5 : Int32)), .val (.ref w_STATUS), .val (.int (0 : Int32)), .val (.int (0 : Int32)), .val (.int (0 : Int32)), .val (.int (1 : Int32))] [(.int (0 : Int32))]))
  refine own_st (fun t k => XS.iload X4.here hx rfl (hb hby at_74) rfl k) ?_
  show own_Fin p e below _ (T4.setTop (mkF m 76 #[.val (.int p0), .val (.int (5 : Int32)), .val (.ref w_STATUS), .val (.int (0 : Int32)), .val (.int (0 : Int32)), .val (.int (0 : Int32)), .val (.int (1 : Int32))] [(.int (0 : Int32)), (.int (0 : Int32))]))
  refine own_st (fun t k => XS.icmpNo X4.here hx rfl (hb hby at_76) rfl (by decide) k) ?_
  show own_Fin p e below _ (T4.setTop (mkF m 79 #[.val (.int p0), .val (.int (5 : Int32)), .val (.ref w_STATUS), .val (.int (0 : Int32)), .val (.int (0 : Int32)), .val (.int (0 : Int32)), .val (.int (1 : Int32))] []))
  refine own_st (fun t k => XS.iloadN X4.here hx rfl (hb hby at_79) rfl k) ?_
  show own_Fin p e below _ (T4.setTop (mkF m 80 #[.val (.int p0), .val (.int (5 : Int32)), .val (.ref w_STATUS), .val (.int (0 : Int32)), .val (.int (0 : Int32)), .val (.int (0 : Int32)), .val (.int (1 : Int32))] [(.int (0 : Int32))]))
  refine own_st (fun t k => XS.iload X4.here hx rfl (hb hby at_80) rfl k) ?_
  show own_Fin p e below _ (T4.setTop (mkF m 82 #[.val (.int p0), .val (.int (5 : Int32)), .val (.ref w_STATUS), .val (.int (0 : Int32)), .val (.int (0 : Int32)), .val (.int (0 : Int32)), .val (.int (1 : Int32))] [(.int (0 : Int32)), (.int (0 : Int32))]))
  refine own_st (fun t k => XS.icmpNo X4.here hx rfl (hb hby at_82) rfl (by decide) k) ?_
  show own_Fin p e below _ (T4.setTop (mkF m 85 #[.val (.int p0), .val (.int (5 : Int32)), .val (.ref w_STATUS), .val (.int (0 : Int32)), .val (.int (0 : Int32)), .val (.int (0 : Int32)), .val (.int (1 : Int32))] []))
  refine own_st (fun t k => XS.iload X4.here hx rfl (hb hby at_85) rfl k) ?_
  show own_Fin p e below _ (T4.setTop (mkF m 87 #[.val (.int p0), .val (.int (5 : Int32)), .val (.ref w_STATUS), .val (.int (0 : Int32)), .val (.int (0 : Int32)), .val (.int (0 : Int32)), .val (.int (1 : Int32))] [(.int (1 : Int32))]))
  refine own_st (fun t k => XS.ifNo X4.here hx rfl (hb hby at_87) rfl (by decide) k) ?_
  show own_Fin p e below _ (T4.setTop (mkF m 90 #[.val (.int p0), .val (.int (5 : Int32)), .val (.ref w_STATUS), .val (.int (0 : Int32)), .val (.int (0 : Int32)), .val (.int (0 : Int32)), .val (.int (1 : Int32))] []))
  refine own_st (fun t k => XS.iconst X4.here hx rfl (hb hby at_90) k) ?_
  show own_Fin p e below _ (T4.setTop (mkF m 91 #[.val (.int p0), .val (.int (5 : Int32)), .val (.ref w_STATUS), .val (.int (0 : Int32)), .val (.int (0 : Int32)), .val (.int (0 : Int32)), .val (.int (1 : Int32))] [(.int (1 : Int32))]))
  refine own_st (fun t k => XS.goto X4.here hx rfl (pc0 := 91) (pc' := 95) rfl (hb hby at_91) (by decide) (by decide) k) ?_
  show own_Fin p e below _ (T4.setTop (mkF m 95 #[.val (.int p0), .val (.int (5 : Int32)), .val (.ref w_STATUS), .val (.int (0 : Int32)), .val (.int (0 : Int32)), .val (.int (0 : Int32)), .val (.int (1 : Int32))] [(.int (1 : Int32))]))
  obtain ⟨fs, hr, hrun, hended, hW, hsame⟩ := X4.leave (v := some (.int (1 : Int32))) (fun h => by rw [Bd.returns] at h; cases h)
  exact ⟨_, _, retN X4 hx (t := .boolean) Bd.returns (by simp) (hb hby at_95) hr, hrun, hended, _, _, rfl, ⟨rfl, N4, e4⟩, ⟨_, rfl⟩, hW, hsame.mono (by decide) (by decide)⟩
theorem rm0 (l : Launch) (Z : State) (a0 : Array Value) (hw : ∀ d ∈ tables_1, d.before a0 Z = true) (ws : List Jvm.Cond) (w_PATH w_STATUS w_COMMIT w_RANGE w_WRITE w_READ : Addr) (p0 : Int32) (h0 : Heap) (n0 : Nat) (PN : own_Pins Z h0 w_PATH w_STATUS w_COMMIT w_RANGE w_WRITE w_READ) :
    MetFree l x (head1 (Jvm.Cond.code x code maxLocals ret :: ws) room_1) (fun a U => a = #[(.int p0)] ∧ Z.Warmed39 U.vm ∧ U.heap = h0) (fun _ _ _ _ _ => True) (fun _ U o U' => ∃ v L, o = .returned v ∧ own_Q h0 n0 (some (.int (1 : Int32))) v U'.heap L ∧ FrameEnd U o U' L room_1.cells room_1.slots) := by
  rcases own_mod6 p0 with q0 | q0 | q0 | q0 | q0 | q0
  ·
    exact rm0_c0 l Z a0 hw ws w_PATH w_STATUS w_COMMIT w_RANGE w_WRITE w_READ p0 h0 n0 PN q0
  ·
    exact rm0_c1 l Z a0 hw ws w_PATH w_STATUS w_COMMIT w_RANGE w_WRITE w_READ p0 h0 n0 PN q0
  ·
    exact rm0_c2 l Z a0 hw ws w_PATH w_STATUS w_COMMIT w_RANGE w_WRITE w_READ p0 h0 n0 PN q0
  ·
    exact rm0_c3 l Z a0 hw ws w_PATH w_STATUS w_COMMIT w_RANGE w_WRITE w_READ p0 h0 n0 PN q0
  ·
    exact rm0_c4 l Z a0 hw ws w_PATH w_STATUS w_COMMIT w_RANGE w_WRITE w_READ p0 h0 n0 PN q0
  ·
    exact rm0_c5 l Z a0 hw ws w_PATH w_STATUS w_COMMIT w_RANGE w_WRITE w_READ p0 h0 n0 PN q0
set_option maxRecDepth 65536 in
set_option maxHeartbeats 40000000 in
theorem comes_1 {Post : Tables → Env → Array Value → State → Outcome → State → Prop} (hpost : ∀ tb e args s v u, (limb_1_1.after args s (.returned v) u = true ∧ limb_1_2.after args s (.returned v) u = true ∧ True) → FrameEnd s (.returned v) u (Jvm.fieldLocs frame_1_writes args s ++ Jvm.arrayLocs frame_1_arrays args s ++ Jvm.staticLocs frame_1_statics s) 0 0 → Post tb e args s (.returned v) u) :
    ArmFor flags0 classFile x code maxLocals ret World_1 tables_1 room_1 Calls_1 rest_1 Pre_1 Post := by
  intro l hfl _ _ p e ha hc hk s m args below hf hA hF happ hP
  obtain ⟨hcalls, hrest, hpre⟩ := hP
  obtain ⟨-, -, -, hnamed, -, -, -, hat⟩ := (Spec.applies_iff hf).mp happ
  obtain ⟨hg, hn⟩ := and_e (Cond.before_iff.mp (show (Jvm.Cond.and given_1 narrow_1).before args s = true from hpre))
  obtain ⟨hgl, hgr⟩ := and_e hg
  obtain ⟨v0, rfl⟩ : ∃ v0 : Value, args = #[v0] := by
    have hs : args.size = 1 := by simpa [Cond.value, given_1] using hgl
    obtain ⟨L⟩ := args
    match L, hs with
    | [v0], _ => exact ⟨v0, rfl⟩
  have hw := fun d (hd : d ∈ tables_1) => atoms_spec (ws := Jvm.Cond.code x code maxLocals ret :: tables_1) hat d (List.mem_cons_of_mem _ hd)
  have hfit : Fit s := fun {y c} hc i hi => by
    obtain ⟨ha, rfl⟩ := Array.getElem?_eq_some_iff.mp hc
    have q := List.all_eq_true.mp ((Array.all_eq_true_iff_forall_mem.mp hF) _ (Array.getElem_mem ha)) i (List.mem_range.mpr hi)
    simpa [Array.getElem?_eq_getElem hi] using q
  obtain ⟨p0, ei0⟩ := is_v hgr
  obtain rfl : v0 = (.int p0) := Option.some.inj ei0
  obtain ⟨hnl, hnr⟩ := and_e hn
  obtain ⟨hnrl, hnrr⟩ := and_e hnr
  obtain ⟨hnrrl, hnrrr⟩ := and_e hnrr
  obtain ⟨hnrrrl, hnrrrr⟩ := and_e hnrrr
  obtain ⟨hnrrrrl, hnrrrrr⟩ := and_e hnrrrr
  obtain ⟨hnrrrrrl, hnrrrrrr⟩ := and_e hnrrrrr
  obtain ⟨hnrrrrrrl, hnrrrrrrr⟩ := and_e hnrrrrrr
  obtain ⟨hnrrrrrrrl, hnrrrrrrrr⟩ := and_e hnrrrrrrr
  obtain ⟨hnrrrrrrrrl, hnrrrrrrrrr⟩ := and_e hnrrrrrrrr
  obtain ⟨hnrrrrrrrrrl, hnrrrrrrrrrr⟩ := and_e hnrrrrrrrrr
  obtain ⟨hnrrrrrrrrrrl, hnrrrrrrrrrrr⟩ := and_e hnrrrrrrrrrr
  obtain ⟨w_PATH, ev_PATH⟩ := exa_v hnl
  have S_PATH := Sta.start ev_PATH (Or.inr ⟨(hw _ (List.mem_of_getElem? (i := 6) rfl)), (hw _ (List.mem_of_getElem? (i := 7) rfl))⟩)
  have E_PATH := Exa.start ev_PATH hnl
  obtain ⟨w_STATUS, ev_STATUS⟩ := exa_v hnrl
  have S_STATUS := Sta.start ev_STATUS (Or.inr ⟨(hw _ (List.mem_of_getElem? (i := 6) rfl)), (hw _ (List.mem_of_getElem? (i := 25) rfl))⟩)
  have E_STATUS := Exa.start ev_STATUS hnrl
  obtain ⟨w_COMMIT, ev_COMMIT⟩ := exa_v hnrrrrl
  have S_COMMIT := Sta.start ev_COMMIT (Or.inr ⟨(hw _ (List.mem_of_getElem? (i := 6) rfl)), (hw _ (List.mem_of_getElem? (i := 27) rfl))⟩)
  have E_COMMIT := Exa.start ev_COMMIT hnrrrrl
  obtain ⟨w_RANGE, ev_RANGE⟩ := exa_v hnrrrrrrl
  have S_RANGE := Sta.start ev_RANGE (Or.inr ⟨(hw _ (List.mem_of_getElem? (i := 6) rfl)), (hw _ (List.mem_of_getElem? (i := 29) rfl))⟩)
  have E_RANGE := Exa.start ev_RANGE hnrrrrrrl
  obtain ⟨w_WRITE, ev_WRITE⟩ := exa_v hnrrrrrrrrl
  have S_WRITE := Sta.start ev_WRITE (Or.inr ⟨(hw _ (List.mem_of_getElem? (i := 6) rfl)), (hw _ (List.mem_of_getElem? (i := 36) rfl))⟩)
  have E_WRITE := Exa.start ev_WRITE hnrrrrrrrrl
  obtain ⟨w_READ, ev_READ⟩ := exa_v hnrrrrrrrrrrl
  have S_READ := Sta.start ev_READ (Or.inr ⟨(hw _ (List.mem_of_getElem? (i := 6) rfl)), (hw _ (List.mem_of_getElem? (i := 38) rfl))⟩)
  have E_READ := Exa.start ev_READ hnrrrrrrrrrrl
  have F_PATH_ordinal := own_fld ev_PATH hnrrl
  have F_STATUS_ordinal := own_fld ev_STATUS hnrrrl
  have F_COMMIT_ordinal := own_fld ev_COMMIT hnrrrrrl
  have F_RANGE_ordinal := own_fld ev_RANGE hnrrrrrrrl
  have F_WRITE_ordinal := own_fld ev_WRITE hnrrrrrrrrrl
  have F_READ_ordinal := own_fld ev_READ hnrrrrrrrrrrr
  obtain ⟨n, o, h1, h2, h3, _, L, rfl, ⟨rfl, N, -⟩, hq⟩ := rm0 l s _ hw tables_1 w_PATH w_STATUS w_COMMIT w_RANGE w_WRITE w_READ p0 s.heap s.heap.size (by exact ⟨S_PATH, E_PATH, S_STATUS, E_STATUS, S_COMMIT, E_COMMIT, S_RANGE, E_RANGE, S_WRITE, E_WRITE, S_READ, E_READ, F_PATH_ordinal, F_STATUS_ordinal, F_COMMIT_ordinal, F_RANGE_ordinal, F_WRITE_ordinal, F_READ_ordinal⟩) p e ha hc hk s m _ below hf ((Spec.applies_iff_loose hf).mp happ).1 ⟨rfl, State.Warmed39.refl s, rfl⟩ trivial
  refine ⟨n, _, h1, h2, h3, hpost _ _ _ _ _ _ ⟨Cond.after_iff.mpr rfl, Cond.after_iff.mpr (eq_i res_at (Term.int_eval (1)) rfl), trivial⟩ ⟨hq.1, hq.2.1, (hq.2.2.sift fun y hy => Or.inr (N y hy)).mono (by decide) (by decide)⟩⟩
theorem main_1_1 : Claimed_1_1 := comes_1 fun _ _ _ _ _ _ h hF => ⟨h.1, hF⟩
theorem main_1_2 : Claimed_1_2 := comes_1 fun _ _ _ _ _ _ h hF => ⟨h.2.1, hF⟩
end Jvm.Pilot.@@N@@
namespace Jvm.Pilot.@@N@@
open Jvm Jvm.ClassFile Sem Op Lib Jvm.Free Jvm.Stand Jvm.Pilot.@@N@@.Jvm.D
/-! MADE BY PROGRAM (witnessworld.py) out of the Statement's table words and the real class files: 12 classes; the members and pool entries that the words name. The judged class is class 1, her method 2. -/
namespace start1
open Jvm.ClassFile
def u (s : String) : CpInfo := .utf8 (stringToUtf16 s)
/-- a pool by its gaps: so many unusable entries, then the entry; so many at the end -/
def gap : Nat → List CpInfo → List CpInfo
  | 0, r => r
  | n + 1, r => .unusable :: gap n r
def poolList (es : List (Nat × CpInfo)) (last : Nat) : List CpInfo := es.foldr (fun e r => gap e.1 (e.2 :: r)) (gap last [])
def pool (es : List (Nat × CpInfo)) (last : Nat) : Array CpInfo := ⟨poolList es last⟩
def fileOf (pool : Array CpInfo) (this : Nat) (attrs : Array Attribute := #[]) (ms : Array MethodInfo := #[]) (fl : Nat := 33) (sup : Nat := 0) (ifs : Array Nat := #[]) (fds : Array FieldInfo := #[]) : ClassFile where
  minorVersion := 0
  majorVersion := 65
  constantPool := pool
  accessFlags := fl
  thisClass := this
  superClass := sup
  interfaces := ifs
  fields := fds
  methods := ms
  attributes := attrs
def plain (name : String) (sup : Option ClassId) : Class where
  name := name
  kind := .ordinary
  loader := none
  accessFlags := 33
  super := sup
  interfaces := #[]
  cf := none
  fields := #[]
  methods := #[]
  instanceTypes := #[]
  staticTypes := #[]
  resolved := #[]
  callSites := []
  init := .initialized
  statics := none
  mirror := none

def pool0 : Array CpInfo := pool [(5, u "<init>"), (0, u "()V"), (1, .class_ 10), (1, u "java/lang/Object")] 113

def k0m0 : Method := { name := "<init>", desc := "()V", sig := { parameters := [], returnType := none }, accessFlags := 1, code := none }
/-- java/lang/Object -/
def k0 : Class := { plain "java/lang/Object" none with
  accessFlags := 33
  interfaces := #[]
  cf := some (fileOf pool0 8 #[] #[{ accessFlags := 1, nameIndex := 5, descriptorIndex := 6, attributes := #[] }] 33 0 #[] #[])
  fields := #[]
  methods := #[k0m0]
  instanceTypes := #[]
  staticTypes := #[]
  resolved := Array.replicate 124 none
  statics := none }

def pool1 : Array CpInfo := pool [(2, .class_ 4), (1, u "java/lang/Object"), (0, u "<init>"), (0, u "()V"), (0, .fieldref 8 9), (0, .class_ 10), (0, .nameAndType 11 12), (0, u "com/example/uni_lock/unilock/cli/Command"), (0, u "PATH"), (0, u "Lcom/example/uni_lock/unilock/cli/Command;"), (0, .fieldref 8 14), (0, .nameAndType 15 12), (0, u "READ"), (0, .fieldref 8 17), (0, .nameAndType 18 12), (0, u "WRITE"), (0, .fieldref 8 20), (0, .nameAndType 21 12), (0, u "COMMIT"), (0, .fieldref 8 23), (0, .nameAndType 24 12), (0, u "RANGE"), (0, .fieldref 8 26), (0, .nameAndType 27 12), (0, u "STATUS"), (0, .integer 2147483647), (0, .methodref 30 31), (0, .class_ 32), (0, .nameAndType 33 34), (0, u "com/example/uni_lock/unilock/cli/CommandTakesSharedPinLaw"), (0, u "pick"), (0, u "(I)Lcom/example/uni_lock/unilock/cli/Command;"), (0, .methodref 8 36), (0, .nameAndType 37 38), (0, u "takesShared"), (0, u "()Z"), (0, .methodref 8 40), (0, .nameAndType 41 38), (0, u "takesDelete"), (0, .methodref 8 43), (0, .nameAndType 44 38), (0, u "takesRange"), (0, .methodref 8 46), (0, .nameAndType 47 38), (0, u "locks"), (3, u "law"), (0, u "(I)Z")] 2

def k1m0 : Method := { name := "<init>", desc := "()V", sig := { parameters := [], returnType := none }, accessFlags := 1, code := none }
def k1c1 : Code := { maxStack := 2, maxLocals := 1, code := method_2_code, exceptionTable := #[], attributes := #[] }
def k1m1 : Method := { name := "pick", desc := "(I)Lcom/example/uni_lock/unilock/cli/Command;", sig := { parameters := [.int], returnType := some (.object "com/example/uni_lock/unilock/cli/Command") }, accessFlags := 10, code := some k1c1 }
def k1c2 : Code := { maxStack := 2, maxLocals := 7, code := code, exceptionTable := #[], attributes := #[] }
def k1m2 : Method := { name := "law", desc := "(I)Z", sig := { parameters := [.int], returnType := some .boolean }, accessFlags := 9, code := some k1c2 }
/-- com/example/uni_lock/unilock/cli/CommandTakesSharedPinLaw -/
def k1 : Class := { plain "com/example/uni_lock/unilock/cli/CommandTakesSharedPinLaw" (some 0) with
  accessFlags := 49
  interfaces := #[]
  cf := some (fileOf pool1 30 #[] #[{ accessFlags := 1, nameIndex := 5, descriptorIndex := 6, attributes := #[] }, { accessFlags := 10, nameIndex := 33, descriptorIndex := 34, attributes := #[] }, { accessFlags := 9, nameIndex := 51, descriptorIndex := 52, attributes := #[] }] 49 2 #[] #[])
  fields := #[]
  methods := #[k1m0, k1m1, k1m2]
  instanceTypes := #[]
  staticTypes := #[]
  resolved := Array.replicate 55 none
  statics := none }

def pool2 : Array CpInfo := pool [(1, .class_ 2), (0, u "java/lang/constant/Constable"), (0, .class_ 4), (0, u "java/lang/Object")] 6

/-- java/lang/constant/Constable -/
def k2 : Class := { plain "java/lang/constant/Constable" (some 0) with
  accessFlags := 1537
  interfaces := #[]
  cf := some (fileOf pool2 1 #[] #[] 1537 3 #[] #[])
  fields := #[]
  methods := #[]
  instanceTypes := #[]
  staticTypes := #[]
  resolved := Array.replicate 11 none
  statics := none }

def pool3 : Array CpInfo := pool [(1, .class_ 2), (0, u "java/lang/Comparable"), (0, .class_ 4), (0, u "java/lang/Object")] 7

/-- java/lang/Comparable -/
def k3 : Class := { plain "java/lang/Comparable" (some 0) with
  accessFlags := 1537
  interfaces := #[]
  cf := some (fileOf pool3 1 #[] #[] 1537 3 #[] #[])
  fields := #[]
  methods := #[]
  instanceTypes := #[]
  staticTypes := #[]
  resolved := Array.replicate 12 none
  statics := none }

def pool4 : Array CpInfo := pool [(1, .class_ 2), (0, u "java/io/Serializable"), (0, .class_ 4), (0, u "java/lang/Object")] 2

/-- java/io/Serializable -/
def k4 : Class := { plain "java/io/Serializable" (some 0) with
  accessFlags := 1537
  interfaces := #[]
  cf := some (fileOf pool4 1 #[] #[] 1537 3 #[] #[])
  fields := #[]
  methods := #[]
  instanceTypes := #[]
  staticTypes := #[]
  resolved := Array.replicate 7 none
  statics := none }

def pool5 : Array CpInfo := pool [(2, .class_ 4), (1, u "java/lang/Enum"), (0, u "name"), (0, u "Ljava/lang/String;"), (2, u "ordinal"), (0, u "I"), (1, .class_ 14), (1, u "java/lang/Object"), (4, u "hash"), (86, .class_ 108), (1, u "java/lang/Enum$EnumDesc"), (2, .class_ 112), (0, u "java/lang/constant/Constable"), (0, .class_ 114), (0, u "java/lang/Comparable"), (0, .class_ 116), (0, u "java/io/Serializable")] 87

/-- java/lang/Enum -/
def k5 : Class := { plain "java/lang/Enum" (some 0) with
  accessFlags := 1057
  interfaces := #[2, 3, 4]
  cf := some (fileOf pool5 2 #[.nestMembers #[106]] #[] 1057 12 #[111, 113, 115] #[{ accessFlags := 18, nameIndex := 5, descriptorIndex := 6, attributes := #[] }, { accessFlags := 18, nameIndex := 9, descriptorIndex := 10, attributes := #[] }, { accessFlags := 2, nameIndex := 19, descriptorIndex := 10, attributes := #[] }])
  fields := #[{ name := "name", type := (.object "java/lang/String"), accessFlags := 18, slot := 0, constantValue := 0 }, { name := "ordinal", type := .int, accessFlags := 18, slot := 1, constantValue := 0 }, { name := "hash", type := .int, accessFlags := 2, slot := 2, constantValue := 0 }]
  methods := #[]
  instanceTypes := #[(.object "java/lang/String"), .int, .int]
  staticTypes := #[]
  resolved := Array.replicate 204 none
  statics := none }

def pool6 : Array CpInfo := pool [(1, .class_ 2), (0, u "com/example/uni_lock/unilock/cli/Command"), (0, .fieldref 1 4), (0, .nameAndType 5 6), (0, u "PATH"), (0, u "Lcom/example/uni_lock/unilock/cli/Command;"), (2, u "READ"), (2, u "WRITE"), (2, u "COMMIT"), (0, .fieldref 1 17), (0, .nameAndType 18 6), (0, u "RANGE"), (0, .fieldref 1 20), (0, .nameAndType 21 6), (0, u "STATUS"), (2, u "$VALUES"), (0, u "[Lcom/example/uni_lock/unilock/cli/Command;"), (6, .class_ 34), (1, u "java/lang/Enum"), (8, u "fileWord"), (0, u "Ljava/lang/String;"), (38, u "locks"), (0, u "()Z"), (2, u "takesDelete"), (4, u "takesShared"), (6, u "takesRange")] 52

def k6c0 : Code := { maxStack := 2, maxLocals := 1, code := prog_1_method_6_code, exceptionTable := #[], attributes := #[] }
def k6m0 : Method := { name := "locks", desc := "()Z", sig := { parameters := [], returnType := some .boolean }, accessFlags := 0, code := some k6c0 }
def k6c1 : Code := { maxStack := 2, maxLocals := 1, code := prog_1_method_7_code, exceptionTable := #[], attributes := #[] }
def k6m1 : Method := { name := "takesShared", desc := "()Z", sig := { parameters := [], returnType := some .boolean }, accessFlags := 0, code := some k6c1 }
def k6c2 : Code := { maxStack := 2, maxLocals := 1, code := prog_1_method_8_code, exceptionTable := #[], attributes := #[] }
def k6m2 : Method := { name := "takesDelete", desc := "()Z", sig := { parameters := [], returnType := some .boolean }, accessFlags := 0, code := some k6c2 }
def k6c3 : Code := { maxStack := 2, maxLocals := 1, code := prog_1_method_9_code, exceptionTable := #[], attributes := #[] }
def k6m3 : Method := { name := "takesRange", desc := "()Z", sig := { parameters := [], returnType := some .boolean }, accessFlags := 0, code := some k6c3 }
/-- com/example/uni_lock/unilock/cli/Command -/
def k6 : Class := { plain "com/example/uni_lock/unilock/cli/Command" (some 5) with
  accessFlags := 16432
  interfaces := #[]
  cf := some (fileOf pool6 1 #[] #[{ accessFlags := 0, nameIndex := 83, descriptorIndex := 84, attributes := #[] }, { accessFlags := 0, nameIndex := 92, descriptorIndex := 84, attributes := #[] }, { accessFlags := 0, nameIndex := 87, descriptorIndex := 84, attributes := #[] }, { accessFlags := 0, nameIndex := 99, descriptorIndex := 84, attributes := #[] }] 16432 32 #[] #[{ accessFlags := 16409, nameIndex := 5, descriptorIndex := 6, attributes := #[] }, { accessFlags := 16409, nameIndex := 9, descriptorIndex := 6, attributes := #[] }, { accessFlags := 16409, nameIndex := 12, descriptorIndex := 6, attributes := #[] }, { accessFlags := 16409, nameIndex := 15, descriptorIndex := 6, attributes := #[] }, { accessFlags := 16409, nameIndex := 18, descriptorIndex := 6, attributes := #[] }, { accessFlags := 16409, nameIndex := 21, descriptorIndex := 6, attributes := #[] }, { accessFlags := 18, nameIndex := 43, descriptorIndex := 44, attributes := #[] }, { accessFlags := 4122, nameIndex := 24, descriptorIndex := 25, attributes := #[] }])
  fields := #[{ name := "PATH", type := (.object "com/example/uni_lock/unilock/cli/Command"), accessFlags := 16409, slot := 0, constantValue := 0 }, { name := "READ", type := (.object "com/example/uni_lock/unilock/cli/Command"), accessFlags := 16409, slot := 1, constantValue := 0 }, { name := "WRITE", type := (.object "com/example/uni_lock/unilock/cli/Command"), accessFlags := 16409, slot := 2, constantValue := 0 }, { name := "COMMIT", type := (.object "com/example/uni_lock/unilock/cli/Command"), accessFlags := 16409, slot := 3, constantValue := 0 }, { name := "RANGE", type := (.object "com/example/uni_lock/unilock/cli/Command"), accessFlags := 16409, slot := 4, constantValue := 0 }, { name := "STATUS", type := (.object "com/example/uni_lock/unilock/cli/Command"), accessFlags := 16409, slot := 5, constantValue := 0 }, { name := "fileWord", type := (.object "java/lang/String"), accessFlags := 18, slot := 3, constantValue := 0 }, { name := "$VALUES", type := (.array (.object "com/example/uni_lock/unilock/cli/Command")), accessFlags := 4122, slot := 6, constantValue := 0 }]
  methods := #[k6m0, k6m1, k6m2, k6m3]
  instanceTypes := #[(.object "java/lang/String"), .int, .int, (.object "java/lang/String")]
  staticTypes := #[(.object "com/example/uni_lock/unilock/cli/Command"), (.object "com/example/uni_lock/unilock/cli/Command"), (.object "com/example/uni_lock/unilock/cli/Command"), (.object "com/example/uni_lock/unilock/cli/Command"), (.object "com/example/uni_lock/unilock/cli/Command"), (.object "com/example/uni_lock/unilock/cli/Command"), (.array (.object "com/example/uni_lock/unilock/cli/Command"))]
  resolved := Array.replicate 152 none
  statics := some 0 }

def pool7 : Array CpInfo := pool [(1, u "java/lang/Cloneable"), (0, .class_ 1), (0, u "java/lang/Object"), (0, .class_ 3)] 3

/-- java/lang/Cloneable -/
def k7 : Class := { plain "java/lang/Cloneable" (some 0) with
  accessFlags := 1537
  interfaces := #[]
  cf := some (fileOf pool7 2 #[] #[] 1537 4 #[] #[])
  fields := #[]
  methods := #[]
  instanceTypes := #[]
  staticTypes := #[]
  resolved := Array.replicate 8 none
  statics := none }

/-- the primitive byte -/
def k8 : Class := { plain "byte" none with kind := .primitive 'B', accessFlags := 0x411 }
/-- [B -/
def k9 : Class := { plain "[B" (some 0) with kind := .array 8 .byte, interfaces := #[7, 4], accessFlags := 1041 }

/-- the primitive int -/
def k10 : Class := { plain "int" none with kind := .primitive 'I', accessFlags := 0x411 }
/-- [I -/
def k11 : Class := { plain "[I" (some 0) with kind := .array 10 .int, interfaces := #[7, 4], accessFlags := 1041 }

def heap : Heap := #[{ cls := 6, slots := #[.ref 1, .ref 6, .ref 5, .ref 3, .ref 4, .ref 2, .null], vm := .statics 6 },
  { cls := 6, slots := #[.null, .int 0, .int 0, .null], vm := .none },
  { cls := 6, slots := #[.null, .int 5, .int 0, .null], vm := .none },
  { cls := 6, slots := #[.null, .int 3, .int 0, .null], vm := .none },
  { cls := 6, slots := #[.null, .int 4, .int 0, .null], vm := .none },
  { cls := 6, slots := #[.null, .int 2, .int 0, .null], vm := .none },
  { cls := 6, slots := #[.null, .int 1, .int 0, .null], vm := .none }]
def classes : Array Class := #[k0, k1, k2, k3, k4, k5, k6, k7, k8, k9, k10, k11]
def interned : List (Array UInt16 × Addr) := []
def slotsUsed : Nat := 31
def theMethod : MethodId := ⟨1, 2⟩
def args0 : Array Value := #[.int 5]
def aboutOver (below : List Frame) : State where
  vm := { classes := classes, interned := interned.toArray }
  heap := heap
  slotsUsed := slotsUsed
  threads := #[{ frames := .invoking theMethod args0 :: below }]
def below0 : List Frame := [.native { method := ⟨0, 0⟩, args := #[] }]
def about1 : State := aboutOver below0
def p0 : Program := .bare "" "" ""
def e0 : Env := launch0.env 0 0 0
theorem w_frames : about1.frames = Frame.invoking theMethod args0 :: below0 := rfl
set_option maxRecDepth 65536 in
theorem w_args : argsFit about1.vm theMethod args0 = true := by decide +kernel
set_option maxRecDepth 65536 in
theorem w_heap : heapFits about1 = true := by decide +kernel
set_option maxRecDepth 65536 in
theorem w_runnable : about1.curStatus? = some .runnable := by decide +kernel
set_option maxRecDepth 65536 in
theorem w_alone : about1.alone = true := by decide +kernel
set_option maxRecDepth 65536 in
theorem w_named : about1.methodNamed? x = some theMethod := by decide +kernel
set_option maxRecDepth 65536 in
theorem w_hears : about1.hears theMethod below0 = true := by decide +kernel
set_option maxRecDepth 65536 in
theorem w_ripe : about1.ripe theMethod args0 below0 = true := by decide +kernel
theorem w_running : about1.status = .running := rfl
set_option maxRecDepth 65536 in
theorem w_room : about1.hasRoom e0.platform room_1 = true :=
  launch0.hasRoom_least _ room_1 (by decide +kernel) (by decide +kernel) (by decide +kernel) (by decide +kernel) (by decide +kernel) (by decide +kernel)
theorem allAtoms_all (ts : List Jvm.Cond) (a : Array Jvm.Value) (st : Jvm.State) : (allAtoms ts).before a st = ts.all (fun c => c.before a st) := by
  induction ts with
  | nil => rfl
  | cons c t ih =>
    show (Jvm.Cond.and c (allAtoms t)).before a st = _
    rw [Jvm.Cond.before_and, ih, List.all_cons]
def words1 : List Jvm.Cond := Jvm.Cond.code x code maxLocals ret :: tables_1
/-- a 'code' word, met by the world's own term for the bytes: nothing is compared byte by byte -/
theorem code_word {y : MethodName} {bytes : ByteArray} {mx : Nat} {rt : Option FieldType} {a : Array Value} {s : State} {m : MethodId} {meth : Method} {c : Code} (h1 : s.methodNamed? y = some m) (h2 : s.vm.method? m = some meth) (h3 : meth.code = some c) (h4 : c.code = bytes)
    (h5 : (c.maxLocals == mx && c.exceptionTable.isEmpty && decide (c.maxStack ≤ mostOperands) && decide (meth.sig.returnType = rt) && !meth.locks && decide (parseMethodDescriptor y.desc = some meth.sig)) = true) : (Jvm.Cond.code y bytes mx rt).before a s = true := by
  simp only [Bool.and_eq_true, beq_iff_eq, Bool.not_eq_true', decide_eq_true_eq] at h5
  obtain ⟨⟨⟨⟨⟨g1, g2⟩, g3⟩, g4⟩, g5⟩, g6⟩ := h5
  simp [Cond.before, Cond.holds, Cond.value, h1, h2, h3, h4, g1, g2, g3, g4, g5, g6]
def isCode : Jvm.Cond → Bool
  | .code _ _ _ _ => true
  | _ => false
theorem all_split {L : List Jvm.Cond} {P : Jvm.Cond → Bool} (h1 : L.all (fun c => isCode c || P c) = true) (h2 : ∀ c ∈ L.filter isCode, P c = true) : L.all P = true := by
  refine List.all_eq_true.mpr fun c hc => ?_
  have h := List.all_eq_true.mp h1 c hc
  rcases Bool.eq_false_or_eq_true (isCode c) with hi | hi
  · exact h2 c (List.mem_filter.mpr ⟨hc, hi⟩)
  · simpa [hi] using h
set_option maxRecDepth 65536 in
theorem w_c0 : (Jvm.Cond.code x code maxLocals ret).before args0 about1 = true := code_word (m := ⟨1, 2⟩) (meth := k1m2) (c := k1c2) (by decide +kernel) rfl rfl rfl (by decide +kernel)
set_option maxRecDepth 65536 in
theorem w_c1 : (Jvm.Cond.code ({ cls := "com/example/uni_lock/unilock/cli/CommandTakesSharedPinLaw", name := "pick", desc := "(I)Lcom/example/uni_lock/unilock/cli/Command;" } : Jvm.MethodName) method_2_code (1 : Nat) (Option.some (Jvm.ClassFile.FieldType.object "com/example/uni_lock/unilock/cli/Command"))).before args0 about1 = true := code_word (m := ⟨1, 1⟩) (meth := k1m1) (c := k1c1) (by decide +kernel) rfl rfl rfl (by decide +kernel)
set_option maxRecDepth 65536 in
theorem w_c2 : (Jvm.Cond.code ({ cls := "com/example/uni_lock/unilock/cli/Command", name := "takesShared", desc := "()Z" } : Jvm.MethodName) prog_1_method_7_code (1 : Nat) (Option.some Jvm.ClassFile.FieldType.boolean)).before args0 about1 = true := code_word (m := ⟨6, 1⟩) (meth := k6m1) (c := k6c1) (by decide +kernel) rfl rfl rfl (by decide +kernel)
set_option maxRecDepth 65536 in
theorem w_c3 : (Jvm.Cond.code ({ cls := "com/example/uni_lock/unilock/cli/Command", name := "takesDelete", desc := "()Z" } : Jvm.MethodName) prog_1_method_8_code (1 : Nat) (Option.some Jvm.ClassFile.FieldType.boolean)).before args0 about1 = true := code_word (m := ⟨6, 2⟩) (meth := k6m2) (c := k6c2) (by decide +kernel) rfl rfl rfl (by decide +kernel)
set_option maxRecDepth 65536 in
theorem w_c4 : (Jvm.Cond.code ({ cls := "com/example/uni_lock/unilock/cli/Command", name := "locks", desc := "()Z" } : Jvm.MethodName) prog_1_method_6_code (1 : Nat) (Option.some Jvm.ClassFile.FieldType.boolean)).before args0 about1 = true := code_word (m := ⟨6, 0⟩) (meth := k6m0) (c := k6c0) (by decide +kernel) rfl rfl rfl (by decide +kernel)
set_option maxRecDepth 65536 in
theorem w_c5 : (Jvm.Cond.code ({ cls := "com/example/uni_lock/unilock/cli/Command", name := "takesRange", desc := "()Z" } : Jvm.MethodName) prog_1_method_9_code (1 : Nat) (Option.some Jvm.ClassFile.FieldType.boolean)).before args0 about1 = true := code_word (m := ⟨6, 3⟩) (meth := k6m3) (c := k6c3) (by decide +kernel) rfl rfl rfl (by decide +kernel)
def codes1 : List Jvm.Cond := [Jvm.Cond.code x code maxLocals ret, Jvm.Cond.code ({ cls := "com/example/uni_lock/unilock/cli/CommandTakesSharedPinLaw", name := "pick", desc := "(I)Lcom/example/uni_lock/unilock/cli/Command;" } : Jvm.MethodName) method_2_code (1 : Nat) (Option.some (Jvm.ClassFile.FieldType.object "com/example/uni_lock/unilock/cli/Command")), Jvm.Cond.code ({ cls := "com/example/uni_lock/unilock/cli/Command", name := "takesShared", desc := "()Z" } : Jvm.MethodName) prog_1_method_7_code (1 : Nat) (Option.some Jvm.ClassFile.FieldType.boolean), Jvm.Cond.code ({ cls := "com/example/uni_lock/unilock/cli/Command", name := "takesDelete", desc := "()Z" } : Jvm.MethodName) prog_1_method_8_code (1 : Nat) (Option.some Jvm.ClassFile.FieldType.boolean), Jvm.Cond.code ({ cls := "com/example/uni_lock/unilock/cli/Command", name := "locks", desc := "()Z" } : Jvm.MethodName) prog_1_method_6_code (1 : Nat) (Option.some Jvm.ClassFile.FieldType.boolean), Jvm.Cond.code ({ cls := "com/example/uni_lock/unilock/cli/Command", name := "takesRange", desc := "()Z" } : Jvm.MethodName) prog_1_method_9_code (1 : Nat) (Option.some Jvm.ClassFile.FieldType.boolean)]
set_option maxRecDepth 65536 in
theorem codes_eq : words1.filter isCode = codes1 := rfl
theorem w_codes : ∀ c ∈ words1.filter isCode, c.before args0 about1 = true := by
  rw [codes_eq]
  intro c hc
  simp only [codes1, List.mem_cons, List.not_mem_nil, or_false] at hc
  rcases hc with rfl | rfl | rfl | rfl | rfl | rfl
  · exact w_c0
  · exact w_c1
  · exact w_c2
  · exact w_c3
  · exact w_c4
  · exact w_c5
set_option maxRecDepth 65536 in
theorem w_t1 : (words1.take 24).all (fun c => isCode c || c.before args0 about1) = true := by decide +kernel
set_option maxRecDepth 65536 in
theorem w_t2 : (words1.drop 24).all (fun c => isCode c || c.before args0 about1) = true := by decide +kernel
theorem w_tables : (allAtoms (Jvm.Cond.code x code maxLocals ret :: tables_1)).before args0 about1 = true := by
  rw [allAtoms_all]
  show words1.all (fun c => c.before args0 about1) = true
  refine all_split ?_ w_codes
  rw [← List.take_append_drop 24 words1, List.all_append, w_t1, w_t2]
  rfl
set_option maxRecDepth 65536 in
theorem w_case : (Jvm.Cond.and given_1 narrow_1).before args0 about1 = true := by decide +kernel
theorem w_applies : (headSpec (Jvm.Cond.code x code maxLocals ret :: tables_1) room_1).applies x e0.platform about1 = true :=
  (Spec.applies_iff w_frames).mpr ⟨w_running, w_runnable, w_alone, w_named, w_hears, w_ripe, w_room, w_tables⟩
theorem atStart : AtStart classFile x code maxLocals ret World_1 tables_1 room_1 Calls_1 rest_1 Pre_1 launch0 p0 e0 about1 theMethod args0 below0 :=
  ⟨lists_1, trivial, launch0.admits_env _ _ _, launch0.least_env, fairChoices_fair.cas, fairChoices_fair.clock, w_frames, w_args, w_heap, w_applies, trivial, trivial, w_case⟩
end start1
theorem witness_1 : WitnessClaimed_1 := ⟨start1.p0, start1.e0, start1.about1, start1.theMethod, start1.args0, start1.below0, start1.atStart⟩
end Jvm.Pilot.@@N@@

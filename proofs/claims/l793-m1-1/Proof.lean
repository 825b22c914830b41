import JvmDerived
import JvmDerived.Pilot.@@N@@Statement
import JvmDerived.Pilot.@@N@@Code
set_option linter.unusedVariables false
set_option linter.unusedSimpArgs false
namespace Jvm.RoadKit
open Sem ClassFile Op Lib Jvm.Stand Jvm.Free Jvm.LawKit
section New
variable {p : Program} {l : Launch} {e : Env} {R : Room} {s : State} {m : MethodId} {args : Array Value} {below : List Frame} {meth : Method} {c : Code} {T : State} {locs : List Loc} {cells slots : Nat}
theorem retI (X : Stand p l e R s m args below meth c T locs cells slots) (hx : p.tables.exec = Jvm.exec) {pc : Nat} {Ls : Array Slot} {z : Int32} {rest : List Value} (hret : meth.sig.returnType = some .int) (hd : decode c.code pc = .ok (.ireturn, 1)) {fs : List Frame}
    (hl : ∀ (f : JFrame) (acts : List Action), f.method = m → f.locked = none → f.entered = [] → (doReturn e (T.setTop f) acts (some (.int z))).1 = T.setFrames fs) : Steps p.tables e below (T.setTop (mkF m pc Ls (.int z :: rest))) (T.setFrames fs) :=
  retOut X hx (t := .int) hret rfl (Or.inl ⟨rfl, Or.inl rfl, z, rfl⟩) hd hl
end New
end Jvm.RoadKit
namespace Jvm.Pilot.@@N@@
open Jvm Jvm.ClassFile Sem Op Lib Jvm.Free Jvm.Stand Jvm.LawKit Jvm.RoadKit Bundle Jvm.Pilot.@@N@@.Jvm.D
/-- the run from A on ends, and K holds of its end -/
def own_Fin (p : Program) (e : Env) (below : List Frame) (K : Outcome → State → Prop) (A : State) : Prop := ∃ t o, Steps p.tables e below A t ∧ t.status = .running ∧ Ended t below o ∧ K o t
theorem own_st {p : Program} {e : Env} {below : List Frame} {K : Outcome → State → Prop} {A B : State} (st : ∀ t, Steps p.tables e below B t → Steps p.tables e below A t) (h : own_Fin p e below K B) : own_Fin p e below K A := by
  obtain ⟨t, o, h1, h2⟩ := h
  exact ⟨t, o, st t h1, h2⟩
theorem own_tr {p : Program} {e : Env} {below : List Frame} {K : Outcome → State → Prop} {A B : State} (st : Steps p.tables e below A B) (h : own_Fin p e below K B) : own_Fin p e below K A := by
  obtain ⟨t, o, h1, h2⟩ := h
  exact ⟨t, o, st.trans h1, h2⟩
/-- what a body leaves that writes nothing: it returns r, the heap as it was -/
def own_Q (h0 : Heap) (n0 : Nat) (r : Option Value) (v : Option Value) (h : Heap) (L : List Loc) : Prop := v = r ∧ Fr n0 L ∧ h = h0
theorem own_eqI {args : Array Value} {s : State} {t : Term} {k : Int32} (h : (Jvm.Cond.eq t (.int k)).value args s none s [] = some true) : t.eval args s none [] s = some (.int k) := by
  cases ht : t.eval args s none [] s with
  | none => simp [Cond.value, ht] at h
  | some x => cases x <;> simp [Cond.value, ht, Term.eval] at h ⊢; exact h
theorem own_fld {args : Array Value} {s : State} {t : Term} {a : Addr} {C n d : String} {k : Int32} (ht : t.eval args s none [] s = some (.ref a)) (h : (Jvm.Cond.eq (.field t C n d) (.int k)).value args s none s [] = some true) : Fld s s.heap a C n d (.int k) :=
  Fld.start (by rw [← fld_at ht]; exact own_eqI h)
theorem own_fldR {args : Array Value} {s : State} {t u : Term} {a b : Addr} {C n d : String} (ht : t.eval args s none [] s = some (.ref a)) (hu : u.eval args s none [] s = some (.ref b)) (h : (Jvm.Cond.eq (.field t C n d) u).value args s none s [] = some true) : Fld s s.heap a C n d (.ref b) := by
  refine Fld.start ?_
  rw [← fld_at ht]
  cases he : (Term.field t C n d).eval args s none [] s with
  | none => simp [Cond.value, he] at h
  | some x => cases x <;> simp [Cond.value, he, hu] at h ⊢; exact h
theorem own_differ {args : Array Value} {s : State} {t u : Term} {a b : Addr} (ht : t.eval args s none [] s = some (.ref a)) (hu : u.eval args s none [] s = some (.ref b)) (h : (Jvm.Cond.not (.eq t u)).value args s none s [] = some true) : a ≠ b := by
  have h1 := not_v h
  have h2 := gotF (eq_R ht hu rfl rfl) h1
  exact fun e => h2 (congrArg Value.ref e)
theorem own_pick {r : Int32} {k : Int} (h : r.toInt = k) : r = Int32.ofInt k := by rw [← h, Int32.ofInt_toInt]
theorem own_staKeep {Z : State} {h h' : Heap} {C n d : String} {v : Value} {ws : List Addr} (F : Sta Z h C n d v) (K : Keep h h' ws) (q : ∀ x ∈ ws, ∀ c : Cell, h[x]? = some c → c.vm.isStatics = false) : Sta Z h' C n d v := by
  obtain ⟨cf, i, k, f, st, cell, h1, h2, h3, h4, h5, h6, h7⟩ := F
  refine ⟨cf, i, k, f, st, cell, h1, h2, h3, h4, K.2.1 st cell h5 (fun z => ?_), h6, h7⟩
  rw [q st z cell h5] at h6
  cases h6
theorem own_plain {Z : State} {h : Heap} {a : Addr} {C : String} (E : Exa Z h a C) : ∀ c : Cell, h[a]? = some c → c.vm.isStatics = false := fun c hc => by
  obtain ⟨c', k, h1, -, -, h4, -⟩ := E
  cases h1.symm.trans hc
  exact h4
theorem own_narZ {x : Int32} (h : x = 0 ∨ x = 1) : narrow .boolean (.int x) = .int x := by rcases h with rfl | rfl <;> rfl
theorem own_fitZ {x : Int32} (h : x = 0 ∨ x = 1) : fits .boolean (.int x) = true := by rcases h with rfl | rfl <;> rfl
/-- what the law's own walk leaves: it returns r and wrote nothing old -/
def own_Q0 (n0 : Nat) (r : Option Value) (v : Option Value) (h : Heap) (L : List Loc) : Prop := v = r ∧ Fr n0 L
/-- what the law's walk leaves, as one word -/
def own_K0 (s : State) (n0 : Nat) (o : Outcome) (U' : State) : Prop := ∃ v L, o = .returned v ∧ own_Q0 n0 (some (.int (1 : Int32))) v U'.heap L ∧ FrameEnd s o U' L room_1.cells room_1.slots

def own_kd (i : Int32) (a b c d : Addr) : Addr := if i = 0 then a else if i = 1 then b else if i = 2 then c else d
theorem own_kd_inj {i j : Int32} {a b c d : Addr} (hi : i = 0 ∨ i = 1 ∨ i = 2 ∨ i = 3) (hj : j = 0 ∨ j = 1 ∨ j = 2 ∨ j = 3) (h1 : a ≠ b) (h2 : a ≠ c) (h3 : a ≠ d) (h4 : b ≠ c) (h5 : b ≠ d) (h6 : c ≠ d) : own_kd i a b c d = own_kd j a b c d ↔ i = j := by
  rcases hi with rfl | rfl | rfl | rfl <;> rcases hj with rfl | rfl | rfl | rfl <;> simp [own_kd, h1, h2, h3, h4, h5, h6, h1.symm, h2.symm, h3.symm, h4.symm, h5.symm, h6.symm]
def own_eq (A B : Addr) (s s' : Int32) (t t' : Int64) (f f' : Int32) : Int32 := if A = B ∧ s = s' ∧ t = t' ∧ f = f' then 1 else 0
theorem own_eq_comm (A B : Addr) (s s' : Int32) (t t' : Int64) (f f' : Int32) : own_eq A B s s' t t' f f' = own_eq B A s' s t' t f' f := by
  simp only [own_eq, eq_comm]
def own_ex (i j : Int32) (s s' : Int32) (t t' : Int64) (f f' : Int32) : Int32 := if i = j ∧ s = s' ∧ t = t' ∧ f = f' then 1 else 0
theorem own_got {i j : Int32} {A B : Addr} (h : A = B ↔ i = j) (s s' : Int32) (t t' : Int64) (f f' : Int32) : own_eq A B s s' t t' f f' = own_ex i j s s' t t' f f' := by
  simp only [own_eq, own_ex, h]
theorem own_chr (x : Int32) : ¬ ((255 : Int32) < ((x &&& (255 : Int32)).toUInt32.toUInt16.toUInt32.toInt32)) := by
  rw [i2c_mask]
  have h := c_and x (255 : Int32) (by decide)
  have h2 : (255 : Int32).toInt = 255 := by decide
  intro q
  have q2 := Int32.lt_iff_toInt_lt.mp q
  omega
theorem own_no {Z : State} {a0 : Array Value} {C O K : String} {n : Nat} (w : (Jvm.Cond.superclass C O).before a0 Z = true) (r : (Jvm.Cond.noSuperclass O).before a0 Z = true) (i : (Jvm.Cond.instantiable K n).before a0 Z = true) (hn : C ≠ K) (ho : O ≠ K) :
    ∃ c t, Z.vm.findClass C = some c ∧ Z.vm.findClass K = some t ∧ Z.vm.assignable c t = false := by
  obtain ⟨t, kt, t1, t2, t3, t4, -, -⟩ := Cond.instantiable_spec i
  obtain ⟨o, ko, o1, o2, o3, -, -⟩ := Cond.noSuperclass_spec r
  obtain ⟨c, c1⟩ := found_sup w
  obtain ⟨p, k, kp, h1, h2, h3, h4, h5, -, h7⟩ := Cond.superclass_spec c1 w
  cases o1.symm.trans h1
  have ne1 := ids_ne c1 t1 hn
  have ne2 := ids_ne o1 t1 ho
  have sub : ∀ fuel, Z.vm.isSubclassAux fuel c t = false := fun fuel => by
    cases fuel with
    | zero => rfl
    | succ f =>
      cases f with
      | zero => simp [Vm.isSubclassAux, ne1, h2, h4]
      | succ f => simp [Vm.isSubclassAux, ne1, ne2, h2, h4, o2, o3]
  refine ⟨c, t, c1, t1, ?_⟩
  have hi : kt.isInterface = false := by
    cases hq : kt.isInterface with
    | false => rfl
    | true => simp [hq] at t4
  show Z.vm.assignableAux (255 + 1) c t = false
  simp [Vm.assignableAux, ne1, h2, t2, h5, t3, hi, Vm.isSubclass, sub]
theorem own_neI {args : Array Value} {s : State} {t : Term} {x k : Int32} (ev : t.eval args s none [] s = some (.int x)) (h : (Jvm.Cond.not (.eq t (.int k))).value args s none s [] = some true) : ¬ (x = k) := by
  have h1 := not_v h
  intro q
  subst q
  simp [Cond.value, ev, Term.eval] at h1
def own_Pins (Z : State) (h0 : Heap) (w_ELECTION : Addr) (w_HEARTBEAT : Addr) (w_RELEASE : Addr) (w_REPLY : Addr) (cs : Int32) : Prop := (Sta Z h0 "com/example/deioces/deioces/Message$Kind" "ELECTION" "Lcom/example/deioces/deioces/Message$Kind;" (.ref w_ELECTION)) ∧ (Exa Z h0 w_ELECTION "com/example/deioces/deioces/Message$Kind") ∧ (Sta Z h0 "com/example/deioces/deioces/Message$Kind" "HEARTBEAT" "Lcom/example/deioces/deioces/Message$Kind;" (.ref w_HEARTBEAT)) ∧ (Exa Z h0 w_HEARTBEAT "com/example/deioces/deioces/Message$Kind") ∧ (Sta Z h0 "com/example/deioces/deioces/Message$Kind" "RELEASE" "Lcom/example/deioces/deioces/Message$Kind;" (.ref w_RELEASE)) ∧ (Exa Z h0 w_RELEASE "com/example/deioces/deioces/Message$Kind") ∧ (Sta Z h0 "com/example/deioces/deioces/Message$Kind" "REPLY" "Lcom/example/deioces/deioces/Message$Kind;" (.ref w_REPLY)) ∧ (Exa Z h0 w_REPLY "com/example/deioces/deioces/Message$Kind") ∧ (Fld Z h0 w_REPLY "java/lang/Enum" "ordinal" "I" (.int 1)) ∧ (Fld Z h0 w_ELECTION "java/lang/Enum" "ordinal" "I" (.int 0)) ∧ (Fld Z h0 w_RELEASE "java/lang/Enum" "ordinal" "I" (.int 2)) ∧ (Fld Z h0 w_HEARTBEAT "java/lang/Enum" "ordinal" "I" (.int 3)) ∧ (Sta Z h0 "java/lang/String" "COMPACT_STRINGS" "Z" (.int cs)) ∧ (¬ (cs = (0 : Int32)))
theorem own_mask4 (p : Int32) : (p &&& (3 : Int32)) = (0 : Int32) ∨ (p &&& (3 : Int32)) = (1 : Int32) ∨ (p &&& (3 : Int32)) = (2 : Int32) ∨ (p &&& (3 : Int32)) = (3 : Int32) := by
  have h2 := c_mask p (3 : Int32) 2 (by decide) rfl
  generalize (p &&& (3 : Int32)) = r at h2 ⊢
  have h3 : r.toInt = p.toInt % 4 := h2
  rcases (by omega : r.toInt = 0 ∨ r.toInt = 1 ∨ r.toInt = 2 ∨ r.toInt = 3) with h | h | h | h
  · exact Or.inl (own_pick h)
  · exact Or.inr (Or.inl (own_pick h))
  · exact Or.inr (Or.inr (Or.inl (own_pick h)))
  · exact Or.inr (Or.inr (Or.inr ((own_pick h))))
theorem d1_0 : decode method_2_code 0 = .ok (.iload_n 0, 1) := by decide +kernel
theorem d1_1 : decode method_2_code 1 = .ok (.ifCond .ne 7, 3) := by decide +kernel
theorem d1_4 : decode method_2_code 4 = .ok (.getstatic 7, 3) := by decide +kernel
theorem d1_7 : decode method_2_code 7 = .ok (.areturn, 1) := by decide +kernel
theorem d1_8 : decode method_2_code 8 = .ok (.iload_n 0, 1) := by decide +kernel
theorem d1_9 : decode method_2_code 9 = .ok (.iconst 1, 1) := by decide +kernel
theorem d1_10 : decode method_2_code 10 = .ok (.if_icmp .ne 7, 3) := by decide +kernel
theorem d1_13 : decode method_2_code 13 = .ok (.getstatic 13, 3) := by decide +kernel
theorem d1_16 : decode method_2_code 16 = .ok (.areturn, 1) := by decide +kernel
theorem d1_17 : decode method_2_code 17 = .ok (.iload_n 0, 1) := by decide +kernel
theorem d1_18 : decode method_2_code 18 = .ok (.iconst 2, 1) := by decide +kernel
theorem d1_19 : decode method_2_code 19 = .ok (.if_icmp .ne 7, 3) := by decide +kernel
theorem d1_22 : decode method_2_code 22 = .ok (.getstatic 16, 3) := by decide +kernel
theorem d1_25 : decode method_2_code 25 = .ok (.areturn, 1) := by decide +kernel
theorem d1_26 : decode method_2_code 26 = .ok (.getstatic 19, 3) := by decide +kernel
theorem d1_29 : decode method_2_code 29 = .ok (.areturn, 1) := by decide +kernel
theorem ef_1_I (m : MethodId) (x0 : Int32) : entryFrame m #[(.int x0)] 1 = mkF m 0 #[.val (.int x0)] [] := by first | (simp [entryFrame, mkF, argsToLocals, Value.category]; done) | rfl
theorem pn_com_example_deioces_deioces_MessageEqualsPinLaw : plainName "com/example/deioces/deioces/MessageEqualsPinLaw" = true := by first | (simp [plainName, overriddenIn]; done) | decide +kernel
set_option maxRecDepth 65536 in
set_option maxHeartbeats 40000000 in
theorem rm1_1 (l : Launch) (Z : State) (a0 : Array Value) (hw : ∀ d ∈ tables_1, d.before a0 Z = true) (ws : List Jvm.Cond) (i1 : Int32) (a2 : Addr) (a3 : Addr) (a4 : Addr) (a5 : Addr) (h0 : Heap) (n0 : Nat) (Z0 : n0 ≤ Array.size h0) (P0 : Sta Z h0 "com/example/deioces/deioces/Message$Kind" "ELECTION" "Lcom/example/deioces/deioces/Message$Kind;" (.ref a2)) (P1 : Sta Z h0 "com/example/deioces/deioces/Message$Kind" "REPLY" "Lcom/example/deioces/deioces/Message$Kind;" (.ref a3)) (P2 : Sta Z h0 "com/example/deioces/deioces/Message$Kind" "RELEASE" "Lcom/example/deioces/deioces/Message$Kind;" (.ref a4)) (P3 : Sta Z h0 "com/example/deioces/deioces/Message$Kind" "HEARTBEAT" "Lcom/example/deioces/deioces/Message$Kind;" (.ref a5)) :
    MetFree l (⟨"com/example/deioces/deioces/MessageEqualsPinLaw", "kindOf", "(I)Lcom/example/deioces/deioces/Message$Kind;"⟩ : MethodName) (head1 (Jvm.Cond.code (⟨"com/example/deioces/deioces/MessageEqualsPinLaw", "kindOf", "(I)Lcom/example/deioces/deioces/Message$Kind;"⟩ : MethodName) method_2_code 1 (some (.object "com/example/deioces/deioces/Message$Kind")) :: ws) ({ frames := 0, cells := 0, slots := 0, locals := 0 } : Room)) (fun a U => a = #[(.int i1)] ∧ Z.Warmed39 U.vm ∧ U.heap = h0) (fun _ _ _ _ _ => True) (fun _ U o U' => ∃ v L, o = .returned v ∧ own_Q h0 n0 (some (.ref (own_kd i1 a2 a3 a4 a5))) v U'.heap L ∧ FrameEnd U o U' L ({ frames := 0, cells := 0, slots := 0, locals := 0 } : Room).cells ({ frames := 0, cells := 0, slots := 0, locals := 0 } : Room).slots) := by
  refine MetFree.of_bodySF (plainFor_of_name pn_com_example_deioces_deioces_MessageEqualsPinLaw) hisR ?_
  intro p e s m args below meth c s₁ Bd hml0 hP hK
  obtain ⟨rfl, hZ, hh⟩ := hP
  have hx := Bd.exec
  have hby := Bd.bytes
  have hml : c.maxLocals = 1 := hml0
  have hown : s.vm.findClass "com/example/deioces/deioces/MessageEqualsPinLaw" = some m.cls := findClass_of_methodNamed Bd.named
  have hnm := (name_of_methodNamed Bd.named Bd.method).1
  have X0 : Stand p l e ({ frames := 0, cells := 0, slots := 0, locals := 0 } : Room) s m #[(.int i1)] below meth c s₁ [] 0 0 := Stand.of_body Bd
  have e0 : s₁.heap = h0 := by rw [← hh, Bd.state]; rfl
  have N0 := Fr.nil n0
  refine (?_ : own_Fin p e below _ _)
  refine own_st (fun t k => castTop (ef_1_I m i1) k) ?_
  show own_Fin p e below _ (s₁.setTop (mkF m 0 #[.val (.int i1)] []))
  refine own_st (fun t k => XS.iloadN X0.here hx rfl (hb hby d1_0) rfl k) ?_
  show own_Fin p e below _ (s₁.setTop (mkF m 1 #[.val (.int i1)] [(.int i1)]))
  by_cases qF1 : i1 = (0 : Int32)
  ·
    refine own_st (fun t k => XS.ifNo X0.here hx rfl (hb hby d1_1) rfl ((if0 _ _).trans (teq qF1).2) k) ?_
    show own_Fin p e below _ (s₁.setTop (mkF m 4 #[.val (.int i1)] []))
    obtain ⟨T2, X2, e2, st2⟩ := getS2 X0 hx hZ hown (host := "") (Or.inl (hw _ (List.mem_of_getElem? (i := 7) rfl))) Via.refl e0 P0 (g := (mkF m 4 #[.val (.int i1)] [])) rfl (hb hby d1_4)
    refine own_st st2 ?_
    show own_Fin p e below _ (T2.setTop (mkF m 7 #[.val (.int i1)] [(.ref a2)]))
    obtain ⟨fs, hr, hrun, hended, hW, hsame⟩ := X2.leave (v := some (.ref a2)) (fun h => by rw [Bd.returns] at h; cases h)
    exact ⟨_, _, retOut X2 hx (t := (.object "com/example/deioces/deioces/Message$Kind")) Bd.returns rfl (Or.inr (Or.inr (Or.inr (Or.inr ⟨rfl, rfl, rfl⟩)))) (hb hby d1_7) hr, hrun, hended, _, _, rfl, ⟨(by simp [own_kd, qF1]), N0, e2⟩, ⟨_, rfl⟩, hW, hsame.mono (by decide) (by decide)⟩
  ·
    refine own_st (fun t k => XS.ifYes X0.here hx rfl (pc0 := 1) (pc' := 8) rfl (hb hby d1_1) rfl ((if0 _ _).trans (feq qF1).2) (by decide) (by decide) k) ?_
    show own_Fin p e below _ (s₁.setTop (mkF m 8 #[.val (.int i1)] []))
    refine own_st (fun t k => XS.iloadN X0.here hx rfl (hb hby d1_8) rfl k) ?_
    show own_Fin p e below _ (s₁.setTop (mkF m 9 #[.val (.int i1)] [(.int i1)]))
    refine own_st (fun t k => XS.iconst X0.here hx rfl (hb hby d1_9) k) ?_
    show own_Fin p e below _ (s₁.setTop (mkF m 10 #[.val (.int i1)] [(.int (1 : Int32)), (.int i1)]))
    by_cases qF3 : i1 = (1 : Int32)
    ·
      refine own_st (fun t k => XS.icmpNo X0.here hx rfl (hb hby d1_10) rfl (teq qF3).2 k) ?_
      show own_Fin p e below _ (s₁.setTop (mkF m 13 #[.val (.int i1)] []))
      obtain ⟨T4, X4, e4, st4⟩ := getS2 X0 hx hZ hown (host := "") (Or.inl (hw _ (List.mem_of_getElem? (i := 35) rfl))) Via.refl e0 P1 (g := (mkF m 13 #[.val (.int i1)] [])) rfl (hb hby d1_13)
      refine own_st st4 ?_
      show own_Fin p e below _ (T4.setTop (mkF m 16 #[.val (.int i1)] [(.ref a3)]))
      obtain ⟨fs, hr, hrun, hended, hW, hsame⟩ := X4.leave (v := some (.ref a3)) (fun h => by rw [Bd.returns] at h; cases h)
      exact ⟨_, _, retOut X4 hx (t := (.object "com/example/deioces/deioces/Message$Kind")) Bd.returns rfl (Or.inr (Or.inr (Or.inr (Or.inr ⟨rfl, rfl, rfl⟩)))) (hb hby d1_16) hr, hrun, hended, _, _, rfl, ⟨(by simp [own_kd, qF1, qF3]), N0, e4⟩, ⟨_, rfl⟩, hW, hsame.mono (by decide) (by decide)⟩
    ·
      refine own_st (fun t k => XS.icmpYes X0.here hx rfl (pc0 := 10) (pc' := 17) rfl (hb hby d1_10) rfl (feq qF3).2 (by decide) (by decide) k) ?_
      show own_Fin p e below _ (s₁.setTop (mkF m 17 #[.val (.int i1)] []))
      refine own_st (fun t k => XS.iloadN X0.here hx rfl (hb hby d1_17) rfl k) ?_
      show own_Fin p e below _ (s₁.setTop (mkF m 18 #[.val (.int i1)] [(.int i1)]))
      refine own_st (fun t k => XS.iconst X0.here hx rfl (hb hby d1_18) k) ?_
      show own_Fin p e below _ (s₁.setTop (mkF m 19 #[.val (.int i1)] [(.int (2 : Int32)), (.int i1)]))
      by_cases qF5 : i1 = (2 : Int32)
      ·
        refine own_st (fun t k => XS.icmpNo X0.here hx rfl (hb hby d1_19) rfl (teq qF5).2 k) ?_
        show own_Fin p e below _ (s₁.setTop (mkF m 22 #[.val (.int i1)] []))
        obtain ⟨T6, X6, e6, st6⟩ := getS2 X0 hx hZ hown (host := "") (Or.inl (hw _ (List.mem_of_getElem? (i := 33) rfl))) Via.refl e0 P2 (g := (mkF m 22 #[.val (.int i1)] [])) rfl (hb hby d1_22)
        refine own_st st6 ?_
        show own_Fin p e below _ (T6.setTop (mkF m 25 #[.val (.int i1)] [(.ref a4)]))
        obtain ⟨fs, hr, hrun, hended, hW, hsame⟩ := X6.leave (v := some (.ref a4)) (fun h => by rw [Bd.returns] at h; cases h)
        exact ⟨_, _, retOut X6 hx (t := (.object "com/example/deioces/deioces/Message$Kind")) Bd.returns rfl (Or.inr (Or.inr (Or.inr (Or.inr ⟨rfl, rfl, rfl⟩)))) (hb hby d1_25) hr, hrun, hended, _, _, rfl, ⟨(by simp [own_kd, qF1, qF3, qF5]), N0, e6⟩, ⟨_, rfl⟩, hW, hsame.mono (by decide) (by decide)⟩
      ·
        refine own_st (fun t k => XS.icmpYes X0.here hx rfl (pc0 := 19) (pc' := 26) rfl (hb hby d1_19) rfl (feq qF5).2 (by decide) (by decide) k) ?_
        show own_Fin p e below _ (s₁.setTop (mkF m 26 #[.val (.int i1)] []))
        obtain ⟨T7, X7, e7, st7⟩ := getS2 X0 hx hZ hown (host := "") (Or.inl (hw _ (List.mem_of_getElem? (i := 31) rfl))) Via.refl e0 P3 (g := (mkF m 26 #[.val (.int i1)] [])) rfl (hb hby d1_26)
        refine own_st st7 ?_
        show own_Fin p e below _ (T7.setTop (mkF m 29 #[.val (.int i1)] [(.ref a5)]))
        obtain ⟨fs, hr, hrun, hended, hW, hsame⟩ := X7.leave (v := some (.ref a5)) (fun h => by rw [Bd.returns] at h; cases h)
        exact ⟨_, _, retOut X7 hx (t := (.object "com/example/deioces/deioces/Message$Kind")) Bd.returns rfl (Or.inr (Or.inr (Or.inr (Or.inr ⟨rfl, rfl, rfl⟩)))) (hb hby d1_29) hr, hrun, hended, _, _, rfl, ⟨(by simp [own_kd, qF1, qF3, qF5]), N0, e7⟩, ⟨_, rfl⟩, hW, hsame.mono (by decide) (by decide)⟩
theorem pd__I_Lcom_example_deioces_deioces_Message_Kind_ : parseMethodDescriptor "(I)Lcom/example/deioces/deioces/Message$Kind;" = some ⟨[.int], some (.object "com/example/deioces/deioces/Message$Kind")⟩ := by decide +kernel
theorem d2_0 : decode prog_30_method_1_code 0 = .ok (.aload_n 0, 1) := by decide +kernel
theorem d2_1 : decode prog_30_method_1_code 1 = .ok (.invokespecial 1, 3) := by decide +kernel
theorem d2_4 : decode prog_30_method_1_code 4 = .ok (.aload_n 0, 1) := by decide +kernel
theorem d2_5 : decode prog_30_method_1_code 5 = .ok (.aload_n 1, 1) := by decide +kernel
theorem d2_6 : decode prog_30_method_1_code 6 = .ok (.putfield 7, 3) := by decide +kernel
theorem d2_9 : decode prog_30_method_1_code 9 = .ok (.aload_n 0, 1) := by decide +kernel
theorem d2_10 : decode prog_30_method_1_code 10 = .ok (.iload_n 2, 1) := by decide +kernel
theorem d2_11 : decode prog_30_method_1_code 11 = .ok (.putfield 13, 3) := by decide +kernel
theorem d2_14 : decode prog_30_method_1_code 14 = .ok (.aload_n 0, 1) := by decide +kernel
theorem d2_15 : decode prog_30_method_1_code 15 = .ok (.lload_n 3, 1) := by decide +kernel
theorem d2_16 : decode prog_30_method_1_code 16 = .ok (.putfield 17, 3) := by decide +kernel
theorem d2_19 : decode prog_30_method_1_code 19 = .ok (.aload_n 0, 1) := by decide +kernel
theorem d2_20 : decode prog_30_method_1_code 20 = .ok (.iload 5, 2) := by decide +kernel
theorem d2_22 : decode prog_30_method_1_code 22 = .ok (.putfield 21, 3) := by decide +kernel
theorem d2_25 : decode prog_30_method_1_code 25 = .ok (.return_, 1) := by decide +kernel
theorem ef_2_RRIJI (m : MethodId) (x0 : Addr) (x1 : Addr) (x2 : Int32) (x3 : Int64) (x4 : Int32) : entryFrame m #[(.ref x0), (.ref x1), (.int x2), (.long x3), (.int x4)] 6 = mkF m 0 #[.val (.ref x0), .val (.ref x1), .val (.int x2), .val (.long x3), .second, .val (.int x4)] [] := by first | (simp [entryFrame, mkF, argsToLocals, Value.category]; done) | rfl
theorem pn_com_example_deioces_deioces_Message : plainName "com/example/deioces/deioces/Message" = true := by first | (simp [plainName, overriddenIn]; done) | decide +kernel
def Q2_2 (Z : State) (a1 : Addr) (a2 : Addr) (i3 : Int32) (j4 : Int64) (i5 : Int32) (h0 : Heap) (n0 : Nat) (v : Option Value) (h : Heap) (L : List Loc) : Prop := v = none ∧ Fr n0 L ∧ Keep h0 h [a1] ∧ Fld Z h a1 "com/example/deioces/deioces/Message" "kind" "Lcom/example/deioces/deioces/Message$Kind;" (.ref a2) ∧ Fld Z h a1 "com/example/deioces/deioces/Message" "sender" "I" (.int i3) ∧ Fld Z h a1 "com/example/deioces/deioces/Message" "stamp" "J" (.long j4) ∧ Fld Z h a1 "com/example/deioces/deioces/Message" "supportive" "Z" (.int i5)
set_option maxRecDepth 65536 in
set_option maxHeartbeats 40000000 in
theorem rm2_2 (l : Launch) (Z : State) (a0 : Array Value) (hw : ∀ d ∈ tables_1, d.before a0 Z = true) (ws : List Jvm.Cond) (a1 : Addr) (a2 : Addr) (i3 : Int32) (j4 : Int64) (i5 : Int32) (h0 : Heap) (n0 : Nat) (Z0 : n0 ≤ Array.size h0) (P0 : i5 = 0 ∨ i5 = 1) (P1 : Fld Z h0 a1 "com/example/deioces/deioces/Message" "kind" "Lcom/example/deioces/deioces/Message$Kind;" .null) (P2 : Exa Z h0 a1 "com/example/deioces/deioces/Message") (P3 : n0 ≤ a1) (P4 : Fld Z h0 a1 "com/example/deioces/deioces/Message" "sender" "I" (.int (0 : Int32))) (P5 : Fld Z h0 a1 "com/example/deioces/deioces/Message" "stamp" "J" (.long (0 : Int64))) (P6 : Fld Z h0 a1 "com/example/deioces/deioces/Message" "supportive" "Z" (.int (0 : Int32))) :
    MetFree l (⟨"com/example/deioces/deioces/Message", "<init>", "(Lcom/example/deioces/deioces/Message$Kind;IJZ)V"⟩ : MethodName) (head1 (Jvm.Cond.code (⟨"com/example/deioces/deioces/Message", "<init>", "(Lcom/example/deioces/deioces/Message$Kind;IJZ)V"⟩ : MethodName) prog_30_method_1_code 6 none :: ws) ({ frames := 1, cells := 0, slots := 0, locals := 12 } : Room)) (fun a U => a = #[(.ref a1), (.ref a2), (.int i3), (.long j4), (.int i5)] ∧ Z.Warmed39 U.vm ∧ U.heap = h0) (fun _ _ _ _ _ => True) (fun _ U o U' => ∃ v L, o = .returned v ∧ Q2_2 Z a1 a2 i3 j4 i5 h0 n0 v U'.heap L ∧ FrameEnd U o U' L ({ frames := 1, cells := 0, slots := 0, locals := 12 } : Room).cells ({ frames := 1, cells := 0, slots := 0, locals := 12 } : Room).slots) := by
  refine MetFree.of_bodySF (plainFor_of_name pn_com_example_deioces_deioces_Message) hisR ?_
  intro p e s m args below meth c s₁ Bd hml0 hP hK
  obtain ⟨rfl, hZ, hh⟩ := hP
  have hx := Bd.exec
  have hby := Bd.bytes
  have hml : c.maxLocals = 6 := hml0
  have hown : s.vm.findClass "com/example/deioces/deioces/Message" = some m.cls := findClass_of_methodNamed Bd.named
  have hnm := (name_of_methodNamed Bd.named Bd.method).1
  have X0 : Stand p l e ({ frames := 1, cells := 0, slots := 0, locals := 12 } : Room) s m #[(.ref a1), (.ref a2), (.int i3), (.long j4), (.int i5)] below meth c s₁ [] 0 0 := Stand.of_body Bd
  have e0 : s₁.heap = h0 := by rw [← hh, Bd.state]; rfl
  have N0 := Fr.nil n0
  refine (?_ : own_Fin p e below _ _)
  refine own_st (fun t k => castTop (ef_2_RRIJI m a1 a2 i3 j4 i5) k) ?_
  show own_Fin p e below _ (s₁.setTop (mkF m 0 #[.val (.ref a1), .val (.ref a2), .val (.int i3), .val (.long j4), .second, .val (.int i5)] []))
  refine own_st (fun t k => XS.aloadN X0.here hx rfl (hb hby d2_0) rfl rfl k) ?_
  show own_Fin p e below _ (s₁.setTop (mkF m 1 #[.val (.ref a1), .val (.ref a2), .val (.int i3), .val (.long j4), .second, .val (.int i5)] [(.ref a1)]))
  obtain ⟨T1, X1, e1, st1⟩ := initO X0 hx hZ hown (hw _ (List.mem_of_getElem? (i := 13) rfl)) (hw _ (List.mem_of_getElem? (i := 14) rfl)) (hw _ (List.mem_of_getElem? (i := 15) rfl)) e0 (g := (mkF m 1 #[.val (.ref a1), .val (.ref a2), .val (.int i3), .val (.long j4), .second, .val (.int i5)] [(.ref a1)])) rfl (by rw [hml]; rfl) rfl (hb hby d2_1) (by decide) (W := 0) (by show 2 * 0 + _ ≤ _; exact Nat.le_of_eq rfl) (by decide)
  refine own_st st1 ?_
  show own_Fin p e below _ (T1.setTop (mkF m 4 #[.val (.ref a1), .val (.ref a2), .val (.int i3), .val (.long j4), .second, .val (.int i5)] []))
  refine own_st (fun t k => XS.aloadN X1.here hx rfl (hb hby d2_4) rfl rfl k) ?_
  show own_Fin p e below _ (T1.setTop (mkF m 5 #[.val (.ref a1), .val (.ref a2), .val (.int i3), .val (.long j4), .second, .val (.int i5)] [(.ref a1)]))
  refine own_st (fun t k => XS.aloadN X1.here hx rfl (hb hby d2_5) rfl rfl k) ?_
  show own_Fin p e below _ (T1.setTop (mkF m 6 #[.val (.ref a1), .val (.ref a2), .val (.int i3), .val (.long j4), .second, .val (.int i5)] [(.ref a2), (.ref a1)]))
  obtain ⟨T2, h2, X2, e2, W2, st2⟩ := putF X1 hx hZ hown (host := "") (Or.inl (hw _ (List.mem_of_getElem? (i := 16) rfl))) Via.refl e1 P1 P2 (Or.inr ⟨(hw _ (List.mem_of_getElem? (i := 17) rfl)), rfl, hnm⟩) (hw _ (List.mem_of_getElem? (i := 1) rfl)) (ty := (.object "com/example/deioces/deioces/Message$Kind")) (by decide) rfl rfl (g := (mkF m 6 #[.val (.ref a1), .val (.ref a2), .val (.int i3), .val (.long j4), .second, .val (.int i5)] [(.ref a2), (.ref a1)])) rfl rfl (hb hby d2_6)
  have F2 : Fld Z h2 a1 "com/example/deioces/deioces/Message" "kind" "Lcom/example/deioces/deioces/Message$Kind;" (.ref a2) := P1.same W2
  have N2 := Fr.snoc X2 N0 P3
  have Z3 : n0 ≤ Array.size h2 := Nat.le_trans Z0 (Keep.of_wr W2).1
  have KC3 : Keep h0 h2 [a1] := (Keep.refl h0 [a1]).wr W2 (Or.inl (List.mem_of_getElem? (i := 0) rfl))
  refine own_st st2 ?_
  show own_Fin p e below _ (T2.setTop (mkF m 9 #[.val (.ref a1), .val (.ref a2), .val (.int i3), .val (.long j4), .second, .val (.int i5)] []))
  refine own_st (fun t k => XS.aloadN X2.here hx rfl (hb hby d2_9) rfl rfl k) ?_
  show own_Fin p e below _ (T2.setTop (mkF m 10 #[.val (.ref a1), .val (.ref a2), .val (.int i3), .val (.long j4), .second, .val (.int i5)] [(.ref a1)]))
  refine own_st (fun t k => XS.iloadN X2.here hx rfl (hb hby d2_10) rfl k) ?_
  show own_Fin p e below _ (T2.setTop (mkF m 11 #[.val (.ref a1), .val (.ref a2), .val (.int i3), .val (.long j4), .second, .val (.int i5)] [(.int i3), (.ref a1)]))
  have F4 : Fld Z h2 a1 "com/example/deioces/deioces/Message" "sender" "I" (.int (0 : Int32)) := (P4.other W2 (Or.inr (slot_ne (Or.inr (hw _ (List.mem_of_getElem? (i := 19) rfl))) (Or.inr (hw _ (List.mem_of_getElem? (i := 17) rfl))) (by decide) (t := .int) (t' := (.object "com/example/deioces/deioces/Message$Kind")) (by decide) (by decide))))
  have F5 : Exa Z h2 a1 "com/example/deioces/deioces/Message" := (P2.wr W2)
  obtain ⟨T6, h6, X6, e6, W6, st6⟩ := putF X2 hx hZ hown (host := "") (Or.inl (hw _ (List.mem_of_getElem? (i := 18) rfl))) Via.refl e2 F4 F5 (Or.inr ⟨(hw _ (List.mem_of_getElem? (i := 19) rfl)), rfl, hnm⟩) (hw _ (List.mem_of_getElem? (i := 1) rfl)) (ty := .int) (by decide) rfl rfl (g := (mkF m 11 #[.val (.ref a1), .val (.ref a2), .val (.int i3), .val (.long j4), .second, .val (.int i5)] [(.int i3), (.ref a1)])) rfl rfl (hb hby d2_11)
  have F6 : Fld Z h6 a1 "com/example/deioces/deioces/Message" "sender" "I" (.int i3) := F4.same W6
  have N6 := Fr.snoc X6 N2 P3
  have Z7 : n0 ≤ Array.size h6 := Nat.le_trans Z3 (Keep.of_wr W6).1
  have KC7 : Keep h0 h6 [a1] := KC3.wr W6 (Or.inl (List.mem_of_getElem? (i := 0) rfl))
  refine own_st st6 ?_
  show own_Fin p e below _ (T6.setTop (mkF m 14 #[.val (.ref a1), .val (.ref a2), .val (.int i3), .val (.long j4), .second, .val (.int i5)] []))
  refine own_st (fun t k => XS.aloadN X6.here hx rfl (hb hby d2_14) rfl rfl k) ?_
  show own_Fin p e below _ (T6.setTop (mkF m 15 #[.val (.ref a1), .val (.ref a2), .val (.int i3), .val (.long j4), .second, .val (.int i5)] [(.ref a1)]))
  refine own_st (fun t k => XS.lloadN X6.here hx rfl (hb hby d2_15) rfl k) ?_
  show own_Fin p e below _ (T6.setTop (mkF m 16 #[.val (.ref a1), .val (.ref a2), .val (.int i3), .val (.long j4), .second, .val (.int i5)] [(.long j4), (.ref a1)]))
  have F8 : Fld Z h6 a1 "com/example/deioces/deioces/Message" "stamp" "J" (.long (0 : Int64)) := ((P5.other W2 (Or.inr (slot_ne (Or.inr (hw _ (List.mem_of_getElem? (i := 21) rfl))) (Or.inr (hw _ (List.mem_of_getElem? (i := 17) rfl))) (by decide) (t := .long) (t' := (.object "com/example/deioces/deioces/Message$Kind")) (by decide) (by decide)))).other W6 (Or.inr (slot_ne (Or.inr (hw _ (List.mem_of_getElem? (i := 21) rfl))) (Or.inr (hw _ (List.mem_of_getElem? (i := 19) rfl))) (by decide) (t := .long) (t' := .int) (by decide) (by decide))))
  have F9 : Exa Z h6 a1 "com/example/deioces/deioces/Message" := (F5.wr W6)
  obtain ⟨T10, h10, X10, e10, W10, st10⟩ := putF X6 hx hZ hown (host := "") (Or.inl (hw _ (List.mem_of_getElem? (i := 20) rfl))) Via.refl e6 F8 F9 (Or.inr ⟨(hw _ (List.mem_of_getElem? (i := 21) rfl)), rfl, hnm⟩) (hw _ (List.mem_of_getElem? (i := 1) rfl)) (ty := .long) (by decide) rfl rfl (g := (mkF m 16 #[.val (.ref a1), .val (.ref a2), .val (.int i3), .val (.long j4), .second, .val (.int i5)] [(.long j4), (.ref a1)])) rfl rfl (hb hby d2_16)
  have F10 : Fld Z h10 a1 "com/example/deioces/deioces/Message" "stamp" "J" (.long j4) := F8.same W10
  have N10 := Fr.snoc X10 N6 P3
  have Z11 : n0 ≤ Array.size h10 := Nat.le_trans Z7 (Keep.of_wr W10).1
  have KC11 : Keep h0 h10 [a1] := KC7.wr W10 (Or.inl (List.mem_of_getElem? (i := 0) rfl))
  refine own_st st10 ?_
  show own_Fin p e below _ (T10.setTop (mkF m 19 #[.val (.ref a1), .val (.ref a2), .val (.int i3), .val (.long j4), .second, .val (.int i5)] []))
  refine own_st (fun t k => XS.aloadN X10.here hx rfl (hb hby d2_19) rfl rfl k) ?_
  show own_Fin p e below _ (T10.setTop (mkF m 20 #[.val (.ref a1), .val (.ref a2), .val (.int i3), .val (.long j4), .second, .val (.int i5)] [(.ref a1)]))
  refine own_st (fun t k => XS.iload X10.here hx rfl (hb hby d2_20) rfl k) ?_
  show own_Fin p e below _ (T10.setTop (mkF m 22 #[.val (.ref a1), .val (.ref a2), .val (.int i3), .val (.long j4), .second, .val (.int i5)] [(.int i5), (.ref a1)]))
  have F12 : Fld Z h10 a1 "com/example/deioces/deioces/Message" "supportive" "Z" (.int (0 : Int32)) := (((P6.other W2 (Or.inr (slot_ne (Or.inr (hw _ (List.mem_of_getElem? (i := 23) rfl))) (Or.inr (hw _ (List.mem_of_getElem? (i := 17) rfl))) (by decide) (t := .boolean) (t' := (.object "com/example/deioces/deioces/Message$Kind")) (by decide) (by decide)))).other W6 (Or.inr (slot_ne (Or.inr (hw _ (List.mem_of_getElem? (i := 23) rfl))) (Or.inr (hw _ (List.mem_of_getElem? (i := 19) rfl))) (by decide) (t := .boolean) (t' := .int) (by decide) (by decide)))).other W10 (Or.inr (slot_ne (Or.inr (hw _ (List.mem_of_getElem? (i := 23) rfl))) (Or.inr (hw _ (List.mem_of_getElem? (i := 21) rfl))) (by decide) (t := .boolean) (t' := .long) (by decide) (by decide))))
  have F13 : Exa Z h10 a1 "com/example/deioces/deioces/Message" := (F9.wr W10)
  obtain ⟨T14, h14, X14, e14, W14, st14⟩ := putF X10 hx hZ hown (host := "") (Or.inl (hw _ (List.mem_of_getElem? (i := 22) rfl))) Via.refl e10 F12 F13 (Or.inr ⟨(hw _ (List.mem_of_getElem? (i := 23) rfl)), rfl, hnm⟩) (hw _ (List.mem_of_getElem? (i := 1) rfl)) (ty := .boolean) (by decide) (own_narZ P0) (own_fitZ P0) (g := (mkF m 22 #[.val (.ref a1), .val (.ref a2), .val (.int i3), .val (.long j4), .second, .val (.int i5)] [(.int i5), (.ref a1)])) rfl rfl (hb hby d2_22)
  have F14 : Fld Z h14 a1 "com/example/deioces/deioces/Message" "supportive" "Z" (.int i5) := F12.same W14
  have N14 := Fr.snoc X14 N10 P3
  have Z15 : n0 ≤ Array.size h14 := Nat.le_trans Z11 (Keep.of_wr W14).1
  have KC15 : Keep h0 h14 [a1] := KC11.wr W14 (Or.inl (List.mem_of_getElem? (i := 0) rfl))
  refine own_st st14 ?_
  show own_Fin p e below _ (T14.setTop (mkF m 25 #[.val (.ref a1), .val (.ref a2), .val (.int i3), .val (.long j4), .second, .val (.int i5)] []))
  have F16 : Fld Z h14 a1 "com/example/deioces/deioces/Message" "kind" "Lcom/example/deioces/deioces/Message$Kind;" (.ref a2) := (((F2.other W6 (Or.inr (slot_ne (Or.inr (hw _ (List.mem_of_getElem? (i := 17) rfl))) (Or.inr (hw _ (List.mem_of_getElem? (i := 19) rfl))) (by decide) (t := (.object "com/example/deioces/deioces/Message$Kind")) (t' := .int) (by decide) (by decide)))).other W10 (Or.inr (slot_ne (Or.inr (hw _ (List.mem_of_getElem? (i := 17) rfl))) (Or.inr (hw _ (List.mem_of_getElem? (i := 21) rfl))) (by decide) (t := (.object "com/example/deioces/deioces/Message$Kind")) (t' := .long) (by decide) (by decide)))).other W14 (Or.inr (slot_ne (Or.inr (hw _ (List.mem_of_getElem? (i := 17) rfl))) (Or.inr (hw _ (List.mem_of_getElem? (i := 23) rfl))) (by decide) (t := (.object "com/example/deioces/deioces/Message$Kind")) (t' := .boolean) (by decide) (by decide))))
  have F17 : Fld Z h14 a1 "com/example/deioces/deioces/Message" "sender" "I" (.int i3) := ((F6.other W10 (Or.inr (slot_ne (Or.inr (hw _ (List.mem_of_getElem? (i := 19) rfl))) (Or.inr (hw _ (List.mem_of_getElem? (i := 21) rfl))) (by decide) (t := .int) (t' := .long) (by decide) (by decide)))).other W14 (Or.inr (slot_ne (Or.inr (hw _ (List.mem_of_getElem? (i := 19) rfl))) (Or.inr (hw _ (List.mem_of_getElem? (i := 23) rfl))) (by decide) (t := .int) (t' := .boolean) (by decide) (by decide))))
  have F18 : Fld Z h14 a1 "com/example/deioces/deioces/Message" "stamp" "J" (.long j4) := (F10.other W14 (Or.inr (slot_ne (Or.inr (hw _ (List.mem_of_getElem? (i := 21) rfl))) (Or.inr (hw _ (List.mem_of_getElem? (i := 23) rfl))) (by decide) (t := .long) (t' := .boolean) (by decide) (by decide))))
  obtain ⟨fs, hr, hrun, hended, hW, hsame⟩ := X14.leave (v := none) (fun _ => rfl)
  have hQf : Q2_2 Z a1 a2 i3 j4 i5 h0 n0 _ h14 _ := ⟨rfl, N14, KC15, F16, F17, F18, F14⟩
  exact ⟨_, _, X14.returnOut hx Bd.returns (hb hby d2_25) hr, hrun, hended, _, _, rfl, (by show Q2_2 Z a1 a2 i3 j4 i5 h0 n0 _ T14.heap _; rw [e14]; exact hQf), ⟨_, rfl⟩, hW, hsame.mono (by decide) (by decide)⟩
theorem pd__Lcom_example_deioces_deioces_Message_Kind_IJZ_V : parseMethodDescriptor "(Lcom/example/deioces/deioces/Message$Kind;IJZ)V" = some ⟨[(.object "com/example/deioces/deioces/Message$Kind"), .int, .long, .boolean], none⟩ := by decide +kernel
theorem d4_0 : decode prog_30_method_10_code 0 = .ok (.aload_n 1, 1) := by decide +kernel
theorem d4_1 : decode prog_30_method_10_code 1 = .ok (.instanceof 8, 3) := by decide +kernel
theorem d4_4 : decode prog_30_method_10_code 4 = .ok (.ifCond .ne 5, 3) := by decide +kernel
theorem d4_9 : decode prog_30_method_10_code 9 = .ok (.aload_n 1, 1) := by decide +kernel
theorem d4_10 : decode prog_30_method_10_code 10 = .ok (.checkcast 8, 3) := by decide +kernel
theorem d4_13 : decode prog_30_method_10_code 13 = .ok (.astore_n 2, 1) := by decide +kernel
theorem d4_14 : decode prog_30_method_10_code 14 = .ok (.aload_n 0, 1) := by decide +kernel
theorem d4_15 : decode prog_30_method_10_code 15 = .ok (.getfield 7, 3) := by decide +kernel
theorem d4_18 : decode prog_30_method_10_code 18 = .ok (.aload_n 2, 1) := by decide +kernel
theorem d4_19 : decode prog_30_method_10_code 19 = .ok (.getfield 7, 3) := by decide +kernel
theorem d4_22 : decode prog_30_method_10_code 22 = .ok (.if_acmp .ne 41, 3) := by decide +kernel
theorem d4_25 : decode prog_30_method_10_code 25 = .ok (.aload_n 0, 1) := by decide +kernel
theorem d4_26 : decode prog_30_method_10_code 26 = .ok (.getfield 13, 3) := by decide +kernel
theorem d4_29 : decode prog_30_method_10_code 29 = .ok (.aload_n 2, 1) := by decide +kernel
theorem d4_30 : decode prog_30_method_10_code 30 = .ok (.getfield 13, 3) := by decide +kernel
theorem d4_33 : decode prog_30_method_10_code 33 = .ok (.if_icmp .ne 30, 3) := by decide +kernel
theorem d4_36 : decode prog_30_method_10_code 36 = .ok (.aload_n 0, 1) := by decide +kernel
theorem d4_37 : decode prog_30_method_10_code 37 = .ok (.getfield 17, 3) := by decide +kernel
theorem d4_40 : decode prog_30_method_10_code 40 = .ok (.aload_n 2, 1) := by decide +kernel
theorem d4_41 : decode prog_30_method_10_code 41 = .ok (.getfield 17, 3) := by decide +kernel
theorem d4_44 : decode prog_30_method_10_code 44 = .ok (.lcmp, 1) := by decide +kernel
theorem d4_45 : decode prog_30_method_10_code 45 = .ok (.ifCond .ne 18, 3) := by decide +kernel
theorem d4_48 : decode prog_30_method_10_code 48 = .ok (.aload_n 0, 1) := by decide +kernel
theorem d4_49 : decode prog_30_method_10_code 49 = .ok (.getfield 21, 3) := by decide +kernel
theorem d4_52 : decode prog_30_method_10_code 52 = .ok (.aload_n 2, 1) := by decide +kernel
theorem d4_53 : decode prog_30_method_10_code 53 = .ok (.getfield 21, 3) := by decide +kernel
theorem d4_56 : decode prog_30_method_10_code 56 = .ok (.if_icmp .ne 7, 3) := by decide +kernel
theorem d4_59 : decode prog_30_method_10_code 59 = .ok (.iconst 1, 1) := by decide +kernel
theorem d4_60 : decode prog_30_method_10_code 60 = .ok (.goto 4, 3) := by decide +kernel
theorem d4_64 : decode prog_30_method_10_code 64 = .ok (.ireturn, 1) := by decide +kernel
theorem d4_63 : decode prog_30_method_10_code 63 = .ok (.iconst 0, 1) := by decide +kernel
theorem ef_4_RR (m : MethodId) (x0 : Addr) (x1 : Addr) : entryFrame m #[(.ref x0), (.ref x1)] 3 = mkF m 0 #[.val (.ref x0), .val (.ref x1), .unset] [] := by first | (simp [entryFrame, mkF, argsToLocals, Value.category]; done) | rfl
set_option maxRecDepth 65536 in
set_option maxHeartbeats 40000000 in
theorem rm4_3 (l : Launch) (Z : State) (a0 : Array Value) (hw : ∀ d ∈ tables_1, d.before a0 Z = true) (ws : List Jvm.Cond) (a1 : Addr) (a2 : Addr) (a3 : Addr) (a4 : Addr) (i5 : Int32) (i6 : Int32) (j7 : Int64) (j8 : Int64) (i9 : Int32) (i10 : Int32) (h0 : Heap) (n0 : Nat) (Z0 : n0 ≤ Array.size h0) (P0 : Exa Z h0 a2 "com/example/deioces/deioces/Message") (P1 : Fld Z h0 a1 "com/example/deioces/deioces/Message" "kind" "Lcom/example/deioces/deioces/Message$Kind;" (.ref a3)) (P2 : Fld Z h0 a2 "com/example/deioces/deioces/Message" "kind" "Lcom/example/deioces/deioces/Message$Kind;" (.ref a4)) (P3 : Fld Z h0 a1 "com/example/deioces/deioces/Message" "sender" "I" (.int i5)) (P4 : Fld Z h0 a2 "com/example/deioces/deioces/Message" "sender" "I" (.int i6)) (P5 : Fld Z h0 a1 "com/example/deioces/deioces/Message" "stamp" "J" (.long j7)) (P6 : Fld Z h0 a2 "com/example/deioces/deioces/Message" "stamp" "J" (.long j8)) (P7 : i9 = 0 ∨ i9 = 1) (P8 : Fld Z h0 a1 "com/example/deioces/deioces/Message" "supportive" "Z" (.int i9)) (P9 : i10 = 0 ∨ i10 = 1) (P10 : Fld Z h0 a2 "com/example/deioces/deioces/Message" "supportive" "Z" (.int i10)) :
    MetFree l (⟨"com/example/deioces/deioces/Message", "equals", "(Ljava/lang/Object;)Z"⟩ : MethodName) (head1 (Jvm.Cond.code (⟨"com/example/deioces/deioces/Message", "equals", "(Ljava/lang/Object;)Z"⟩ : MethodName) prog_30_method_10_code 3 (some .boolean) :: ws) ({ frames := 0, cells := 0, slots := 0, locals := 0 } : Room)) (fun a U => a = #[(.ref a1), (.ref a2)] ∧ Z.Warmed39 U.vm ∧ U.heap = h0) (fun _ _ _ _ _ => True) (fun _ U o U' => ∃ v L, o = .returned v ∧ own_Q h0 n0 (some (.int (own_eq a3 a4 i5 i6 j7 j8 i9 i10))) v U'.heap L ∧ FrameEnd U o U' L ({ frames := 0, cells := 0, slots := 0, locals := 0 } : Room).cells ({ frames := 0, cells := 0, slots := 0, locals := 0 } : Room).slots) := by
  refine MetFree.of_bodySF (plainFor_of_name pn_com_example_deioces_deioces_Message) hisR ?_
  intro p e s m args below meth c s₁ Bd hml0 hP hK
  obtain ⟨rfl, hZ, hh⟩ := hP
  have hx := Bd.exec
  have hby := Bd.bytes
  have hml : c.maxLocals = 3 := hml0
  have hown : s.vm.findClass "com/example/deioces/deioces/Message" = some m.cls := findClass_of_methodNamed Bd.named
  have hnm := (name_of_methodNamed Bd.named Bd.method).1
  have X0 : Stand p l e ({ frames := 0, cells := 0, slots := 0, locals := 0 } : Room) s m #[(.ref a1), (.ref a2)] below meth c s₁ [] 0 0 := Stand.of_body Bd
  have e0 : s₁.heap = h0 := by rw [← hh, Bd.state]; rfl
  have N0 := Fr.nil n0
  refine (?_ : own_Fin p e below _ _)
  refine own_st (fun t k => castTop (ef_4_RR m a1 a2) k) ?_
  show own_Fin p e below _ (s₁.setTop (mkF m 0 #[.val (.ref a1), .val (.ref a2), .unset] []))
  refine own_st (fun t k => XS.aloadN X0.here hx rfl (hb hby d4_0) rfl rfl k) ?_
  show own_Fin p e below _ (s₁.setTop (mkF m 1 #[.val (.ref a1), .val (.ref a2), .unset] [(.ref a2)]))
  obtain ⟨T1, X1, e1, st1⟩ := instY X0 hx hZ hown (hw _ (List.mem_of_getElem? (i := 29) rfl)) e0 (Ins.self P0) (g := (mkF m 1 #[.val (.ref a1), .val (.ref a2), .unset] [(.ref a2)])) rfl rfl (hb hby d4_1)
  refine own_st st1 ?_
  show own_Fin p e below _ (T1.setTop (mkF m 4 #[.val (.ref a1), .val (.ref a2), .unset] [(.int (1 : Int32))]))
  refine own_st (fun t k => XS.ifYes X1.here hx rfl (pc0 := 4) (pc' := 9) rfl (hb hby d4_4) rfl (by decide) (by decide) (by decide) k) ?_
  show own_Fin p e below _ (T1.setTop (mkF m 9 #[.val (.ref a1), .val (.ref a2), .unset] []))
  refine own_st (fun t k => XS.aloadN X1.here hx rfl (hb hby d4_9) rfl rfl k) ?_
  show own_Fin p e below _ (T1.setTop (mkF m 10 #[.val (.ref a1), .val (.ref a2), .unset] [(.ref a2)]))
  obtain ⟨T2, X2, e2, st2⟩ := castY X1 hx hZ hown (hw _ (List.mem_of_getElem? (i := 29) rfl)) e1 (Ins.self P0) (g := (mkF m 10 #[.val (.ref a1), .val (.ref a2), .unset] [(.ref a2)])) rfl rfl (hb hby d4_10)
  refine own_st st2 ?_
  show own_Fin p e below _ (T2.setTop (mkF m 13 #[.val (.ref a1), .val (.ref a2), .unset] [(.ref a2)]))
  refine own_st (fun t k => XS.astoreN X2.here hx rfl (hb hby d4_13) rfl rfl (l' := #[.val (.ref a1), .val (.ref a2), .val (.ref a2)]) rfl k) ?_
  show own_Fin p e below _ (T2.setTop (mkF m 14 #[.val (.ref a1), .val (.ref a2), .val (.ref a2)] []))
  refine own_st (fun t k => XS.aloadN X2.here hx rfl (hb hby d4_14) rfl rfl k) ?_
  show own_Fin p e below _ (T2.setTop (mkF m 15 #[.val (.ref a1), .val (.ref a2), .val (.ref a2)] [(.ref a1)]))
  obtain ⟨T3, X3, e3, st3⟩ := getF X2 hx hZ hown (host := "") (Or.inl (hw _ (List.mem_of_getElem? (i := 16) rfl))) Via.refl e2 P1 (g := (mkF m 15 #[.val (.ref a1), .val (.ref a2), .val (.ref a2)] [(.ref a1)])) rfl rfl (hb hby d4_15)
  refine own_st st3 ?_
  show own_Fin p e below _ (T3.setTop (mkF m 18 #[.val (.ref a1), .val (.ref a2), .val (.ref a2)] [(.ref a3)]))
  refine own_st (fun t k => XS.aloadN X3.here hx rfl (hb hby d4_18) rfl rfl k) ?_
  show own_Fin p e below _ (T3.setTop (mkF m 19 #[.val (.ref a1), .val (.ref a2), .val (.ref a2)] [(.ref a2), (.ref a3)]))
  obtain ⟨T4, X4, e4, st4⟩ := getF X3 hx hZ hown (host := "") (Or.inl (hw _ (List.mem_of_getElem? (i := 16) rfl))) Via.refl e3 P2 (g := (mkF m 19 #[.val (.ref a1), .val (.ref a2), .val (.ref a2)] [(.ref a2), (.ref a3)])) rfl rfl (hb hby d4_19)
  refine own_st st4 ?_
  show own_Fin p e below _ (T4.setTop (mkF m 22 #[.val (.ref a1), .val (.ref a2), .val (.ref a2)] [(.ref a4), (.ref a3)]))
  by_cases qA5 : a3 = a4
  ·
    refine own_st (fun t k => Jvm.RoadKit.acmp (g := (mkF m 22 #[.val (.ref a1), .val (.ref a2), .val (.ref a2)] [(.ref a4), (.ref a3)])) X4 hx rfl rfl rfl (pc0 := 22) (pc' := 25) (same := true) rfl (hb hby d4_22) rfl (decide_eq_true (congrArg Value.ref qA5)) (by decide) (by decide) k) ?_
    show own_Fin p e below _ (T4.setTop (mkF m 25 #[.val (.ref a1), .val (.ref a2), .val (.ref a2)] []))
    refine own_st (fun t k => XS.aloadN X4.here hx rfl (hb hby d4_25) rfl rfl k) ?_
    show own_Fin p e below _ (T4.setTop (mkF m 26 #[.val (.ref a1), .val (.ref a2), .val (.ref a2)] [(.ref a1)]))
    obtain ⟨T6, X6, e6, st6⟩ := getF X4 hx hZ hown (host := "") (Or.inl (hw _ (List.mem_of_getElem? (i := 18) rfl))) Via.refl e4 P3 (g := (mkF m 26 #[.val (.ref a1), .val (.ref a2), .val (.ref a2)] [(.ref a1)])) rfl rfl (hb hby d4_26)
    refine own_st st6 ?_
    show own_Fin p e below _ (T6.setTop (mkF m 29 #[.val (.ref a1), .val (.ref a2), .val (.ref a2)] [(.int i5)]))
    refine own_st (fun t k => XS.aloadN X6.here hx rfl (hb hby d4_29) rfl rfl k) ?_
    show own_Fin p e below _ (T6.setTop (mkF m 30 #[.val (.ref a1), .val (.ref a2), .val (.ref a2)] [(.ref a2), (.int i5)]))
    obtain ⟨T7, X7, e7, st7⟩ := getF X6 hx hZ hown (host := "") (Or.inl (hw _ (List.mem_of_getElem? (i := 18) rfl))) Via.refl e6 P4 (g := (mkF m 30 #[.val (.ref a1), .val (.ref a2), .val (.ref a2)] [(.ref a2), (.int i5)])) rfl rfl (hb hby d4_30)
    refine own_st st7 ?_
    show own_Fin p e below _ (T7.setTop (mkF m 33 #[.val (.ref a1), .val (.ref a2), .val (.ref a2)] [(.int i6), (.int i5)]))
    by_cases qF8 : i5 = i6
    ·
      refine own_st (fun t k => XS.icmpNo X7.here hx rfl (hb hby d4_33) rfl (teq qF8).2 k) ?_
      show own_Fin p e below _ (T7.setTop (mkF m 36 #[.val (.ref a1), .val (.ref a2), .val (.ref a2)] []))
      refine own_st (fun t k => XS.aloadN X7.here hx rfl (hb hby d4_36) rfl rfl k) ?_
      show own_Fin p e below _ (T7.setTop (mkF m 37 #[.val (.ref a1), .val (.ref a2), .val (.ref a2)] [(.ref a1)]))
      obtain ⟨T9, X9, e9, st9⟩ := getF X7 hx hZ hown (host := "") (Or.inl (hw _ (List.mem_of_getElem? (i := 20) rfl))) Via.refl e7 P5 (g := (mkF m 37 #[.val (.ref a1), .val (.ref a2), .val (.ref a2)] [(.ref a1)])) rfl rfl (hb hby d4_37)
      refine own_st st9 ?_
      show own_Fin p e below _ (T9.setTop (mkF m 40 #[.val (.ref a1), .val (.ref a2), .val (.ref a2)] [(.long j7)]))
      refine own_st (fun t k => XS.aloadN X9.here hx rfl (hb hby d4_40) rfl rfl k) ?_
      show own_Fin p e below _ (T9.setTop (mkF m 41 #[.val (.ref a1), .val (.ref a2), .val (.ref a2)] [(.ref a2), (.long j7)]))
      obtain ⟨T10, X10, e10, st10⟩ := getF X9 hx hZ hown (host := "") (Or.inl (hw _ (List.mem_of_getElem? (i := 20) rfl))) Via.refl e9 P6 (g := (mkF m 41 #[.val (.ref a1), .val (.ref a2), .val (.ref a2)] [(.ref a2), (.long j7)])) rfl rfl (hb hby d4_41)
      refine own_st st10 ?_
      show own_Fin p e below _ (T10.setTop (mkF m 44 #[.val (.ref a1), .val (.ref a2), .val (.ref a2)] [(.long j8), (.long j7)]))
      refine own_st (fun t k => XS.lcmp X10.here hx rfl (hb hby d4_44) rfl k) ?_
      show own_Fin p e below _ (T10.setTop (mkF m 45 #[.val (.ref a1), .val (.ref a2), .val (.ref a2)] [(.int (lcmpW j7 j8))]))
      by_cases qF11 : j7 = j8
      ·
        refine own_st (fun t k => XS.ifNo X10.here hx rfl (hb hby d4_45) rfl ((if0 _ _).trans (teq (Iff.mpr (lw_eq _ _) qF11)).2) k) ?_
        show own_Fin p e below _ (T10.setTop (mkF m 48 #[.val (.ref a1), .val (.ref a2), .val (.ref a2)] []))
        refine own_st (fun t k => XS.aloadN X10.here hx rfl (hb hby d4_48) rfl rfl k) ?_
        show own_Fin p e below _ (T10.setTop (mkF m 49 #[.val (.ref a1), .val (.ref a2), .val (.ref a2)] [(.ref a1)]))
        obtain ⟨T12, X12, e12, st12⟩ := getF X10 hx hZ hown (host := "") (Or.inl (hw _ (List.mem_of_getElem? (i := 22) rfl))) Via.refl e10 P8 (g := (mkF m 49 #[.val (.ref a1), .val (.ref a2), .val (.ref a2)] [(.ref a1)])) rfl rfl (hb hby d4_49)
        refine own_st st12 ?_
        show own_Fin p e below _ (T12.setTop (mkF m 52 #[.val (.ref a1), .val (.ref a2), .val (.ref a2)] [(.int i9)]))
        refine own_st (fun t k => XS.aloadN X12.here hx rfl (hb hby d4_52) rfl rfl k) ?_
        show own_Fin p e below _ (T12.setTop (mkF m 53 #[.val (.ref a1), .val (.ref a2), .val (.ref a2)] [(.ref a2), (.int i9)]))
        obtain ⟨T13, X13, e13, st13⟩ := getF X12 hx hZ hown (host := "") (Or.inl (hw _ (List.mem_of_getElem? (i := 22) rfl))) Via.refl e12 P10 (g := (mkF m 53 #[.val (.ref a1), .val (.ref a2), .val (.ref a2)] [(.ref a2), (.int i9)])) rfl rfl (hb hby d4_53)
        refine own_st st13 ?_
        show own_Fin p e below _ (T13.setTop (mkF m 56 #[.val (.ref a1), .val (.ref a2), .val (.ref a2)] [(.int i10), (.int i9)]))
        by_cases qF14 : i9 = i10
        ·
          refine own_st (fun t k => XS.icmpNo X13.here hx rfl (hb hby d4_56) rfl (teq qF14).2 k) ?_
          show own_Fin p e below _ (T13.setTop (mkF m 59 #[.val (.ref a1), .val (.ref a2), .val (.ref a2)] []))
          refine own_st (fun t k => XS.iconst X13.here hx rfl (hb hby d4_59) k) ?_
          show own_Fin p e below _ (T13.setTop (mkF m 60 #[.val (.ref a1), .val (.ref a2), .val (.ref a2)] [(.int (1 : Int32))]))
          refine own_st (fun t k => XS.goto X13.here hx rfl (pc0 := 60) (pc' := 64) rfl (hb hby d4_60) (by decide) (by decide) k) ?_
          show own_Fin p e below _ (T13.setTop (mkF m 64 #[.val (.ref a1), .val (.ref a2), .val (.ref a2)] [(.int (1 : Int32))]))
          obtain ⟨fs, hr, hrun, hended, hW, hsame⟩ := X13.leave (v := some (.int (1 : Int32))) (fun h => by rw [Bd.returns] at h; cases h)
          exact ⟨_, _, retN X13 hx (t := .boolean) Bd.returns (by simp) (hb hby d4_64) hr, hrun, hended, _, _, rfl, ⟨(by simp [own_eq, qA5, qF8, qF11, qF14]), N0, e13⟩, ⟨_, rfl⟩, hW, hsame.mono (by decide) (by decide)⟩
        ·
          refine own_st (fun t k => XS.icmpYes X13.here hx rfl (pc0 := 56) (pc' := 63) rfl (hb hby d4_56) rfl (feq qF14).2 (by decide) (by decide) k) ?_
          show own_Fin p e below _ (T13.setTop (mkF m 63 #[.val (.ref a1), .val (.ref a2), .val (.ref a2)] []))
          refine own_st (fun t k => XS.iconst X13.here hx rfl (hb hby d4_63) k) ?_
          show own_Fin p e below _ (T13.setTop (mkF m 64 #[.val (.ref a1), .val (.ref a2), .val (.ref a2)] [(.int (0 : Int32))]))
          obtain ⟨fs, hr, hrun, hended, hW, hsame⟩ := X13.leave (v := some (.int (0 : Int32))) (fun h => by rw [Bd.returns] at h; cases h)
          exact ⟨_, _, retN X13 hx (t := .boolean) Bd.returns (by simp) (hb hby d4_64) hr, hrun, hended, _, _, rfl, ⟨(by simp [own_eq, qA5, qF8, qF11, qF14]), N0, e13⟩, ⟨_, rfl⟩, hW, hsame.mono (by decide) (by decide)⟩
      ·
        refine own_st (fun t k => XS.ifYes X10.here hx rfl (pc0 := 45) (pc' := 63) rfl (hb hby d4_45) rfl ((if0 _ _).trans (feq (mt (lw_eq _ _).1 qF11)).2) (by decide) (by decide) k) ?_
        show own_Fin p e below _ (T10.setTop (mkF m 63 #[.val (.ref a1), .val (.ref a2), .val (.ref a2)] []))
        refine own_st (fun t k => XS.iconst X10.here hx rfl (hb hby d4_63) k) ?_
        show own_Fin p e below _ (T10.setTop (mkF m 64 #[.val (.ref a1), .val (.ref a2), .val (.ref a2)] [(.int (0 : Int32))]))
        obtain ⟨fs, hr, hrun, hended, hW, hsame⟩ := X10.leave (v := some (.int (0 : Int32))) (fun h => by rw [Bd.returns] at h; cases h)
        exact ⟨_, _, retN X10 hx (t := .boolean) Bd.returns (by simp) (hb hby d4_64) hr, hrun, hended, _, _, rfl, ⟨(by simp [own_eq, qA5, qF8, qF11]), N0, e10⟩, ⟨_, rfl⟩, hW, hsame.mono (by decide) (by decide)⟩
    ·
      refine own_st (fun t k => XS.icmpYes X7.here hx rfl (pc0 := 33) (pc' := 63) rfl (hb hby d4_33) rfl (feq qF8).2 (by decide) (by decide) k) ?_
      show own_Fin p e below _ (T7.setTop (mkF m 63 #[.val (.ref a1), .val (.ref a2), .val (.ref a2)] []))
      refine own_st (fun t k => XS.iconst X7.here hx rfl (hb hby d4_63) k) ?_
      show own_Fin p e below _ (T7.setTop (mkF m 64 #[.val (.ref a1), .val (.ref a2), .val (.ref a2)] [(.int (0 : Int32))]))
      obtain ⟨fs, hr, hrun, hended, hW, hsame⟩ := X7.leave (v := some (.int (0 : Int32))) (fun h => by rw [Bd.returns] at h; cases h)
      exact ⟨_, _, retN X7 hx (t := .boolean) Bd.returns (by simp) (hb hby d4_64) hr, hrun, hended, _, _, rfl, ⟨(by simp [own_eq, qA5, qF8]), N0, e7⟩, ⟨_, rfl⟩, hW, hsame.mono (by decide) (by decide)⟩
  ·
    refine own_st (fun t k => Jvm.RoadKit.acmp (g := (mkF m 22 #[.val (.ref a1), .val (.ref a2), .val (.ref a2)] [(.ref a4), (.ref a3)])) X4 hx rfl rfl rfl (pc0 := 22) (pc' := 63) (same := false) rfl (hb hby d4_22) rfl (decide_eq_false fun q => qA5 (Value.ref.inj q)) (by decide) (by decide) k) ?_
    show own_Fin p e below _ (T4.setTop (mkF m 63 #[.val (.ref a1), .val (.ref a2), .val (.ref a2)] []))
    refine own_st (fun t k => XS.iconst X4.here hx rfl (hb hby d4_63) k) ?_
    show own_Fin p e below _ (T4.setTop (mkF m 64 #[.val (.ref a1), .val (.ref a2), .val (.ref a2)] [(.int (0 : Int32))]))
    obtain ⟨fs, hr, hrun, hended, hW, hsame⟩ := X4.leave (v := some (.int (0 : Int32))) (fun h => by rw [Bd.returns] at h; cases h)
    exact ⟨_, _, retN X4 hx (t := .boolean) Bd.returns (by simp) (hb hby d4_64) hr, hrun, hended, _, _, rfl, ⟨(by simp [own_eq, qA5]), N0, e4⟩, ⟨_, rfl⟩, hW, hsame.mono (by decide) (by decide)⟩
theorem pd__Ljava_lang_Object__Z : parseMethodDescriptor "(Ljava/lang/Object;)Z" = some ⟨[(.object "java/lang/Object")], some .boolean⟩ := by decide +kernel
set_option maxRecDepth 65536 in
set_option maxHeartbeats 40000000 in
theorem rm4_4 (l : Launch) (Z : State) (a0 : Array Value) (hw : ∀ d ∈ tables_1, d.before a0 Z = true) (ws : List Jvm.Cond) (a1 : Addr) (a2 : Addr) (i3 : Int32) (j4 : Int64) (i5 : Int32) (h0 : Heap) (n0 : Nat) (Z0 : n0 ≤ Array.size h0) (P0 : Exa Z h0 a1 "com/example/deioces/deioces/Message") (P1 : Fld Z h0 a1 "com/example/deioces/deioces/Message" "kind" "Lcom/example/deioces/deioces/Message$Kind;" (.ref a2)) (P2 : Fld Z h0 a1 "com/example/deioces/deioces/Message" "sender" "I" (.int i3)) (P3 : Fld Z h0 a1 "com/example/deioces/deioces/Message" "stamp" "J" (.long j4)) (P4 : i5 = 0 ∨ i5 = 1) (P5 : Fld Z h0 a1 "com/example/deioces/deioces/Message" "supportive" "Z" (.int i5)) :
    MetFree l (⟨"com/example/deioces/deioces/Message", "equals", "(Ljava/lang/Object;)Z"⟩ : MethodName) (head1 (Jvm.Cond.code (⟨"com/example/deioces/deioces/Message", "equals", "(Ljava/lang/Object;)Z"⟩ : MethodName) prog_30_method_10_code 3 (some .boolean) :: ws) ({ frames := 0, cells := 0, slots := 0, locals := 0 } : Room)) (fun a U => a = #[(.ref a1), (.ref a1)] ∧ Z.Warmed39 U.vm ∧ U.heap = h0) (fun _ _ _ _ _ => True) (fun _ U o U' => ∃ v L, o = .returned v ∧ own_Q h0 n0 (some (.int (1 : Int32))) v U'.heap L ∧ FrameEnd U o U' L ({ frames := 0, cells := 0, slots := 0, locals := 0 } : Room).cells ({ frames := 0, cells := 0, slots := 0, locals := 0 } : Room).slots) := by
  refine MetFree.of_bodySF (plainFor_of_name pn_com_example_deioces_deioces_Message) hisR ?_
  intro p e s m args below meth c s₁ Bd hml0 hP hK
  obtain ⟨rfl, hZ, hh⟩ := hP
  have hx := Bd.exec
  have hby := Bd.bytes
  have hml : c.maxLocals = 3 := hml0
  have hown : s.vm.findClass "com/example/deioces/deioces/Message" = some m.cls := findClass_of_methodNamed Bd.named
  have hnm := (name_of_methodNamed Bd.named Bd.method).1
  have X0 : Stand p l e ({ frames := 0, cells := 0, slots := 0, locals := 0 } : Room) s m #[(.ref a1), (.ref a1)] below meth c s₁ [] 0 0 := Stand.of_body Bd
  have e0 : s₁.heap = h0 := by rw [← hh, Bd.state]; rfl
  have N0 := Fr.nil n0
  refine (?_ : own_Fin p e below _ _)
  refine own_st (fun t k => castTop (ef_4_RR m a1 a1) k) ?_
  show own_Fin p e below _ (s₁.setTop (mkF m 0 #[.val (.ref a1), .val (.ref a1), .unset] []))
  refine own_st (fun t k => XS.aloadN X0.here hx rfl (hb hby d4_0) rfl rfl k) ?_
  show own_Fin p e below _ (s₁.setTop (mkF m 1 #[.val (.ref a1), .val (.ref a1), .unset] [(.ref a1)]))
  obtain ⟨T1, X1, e1, st1⟩ := instY X0 hx hZ hown (hw _ (List.mem_of_getElem? (i := 29) rfl)) e0 (Ins.self P0) (g := (mkF m 1 #[.val (.ref a1), .val (.ref a1), .unset] [(.ref a1)])) rfl rfl (hb hby d4_1)
  refine own_st st1 ?_
  show own_Fin p e below _ (T1.setTop (mkF m 4 #[.val (.ref a1), .val (.ref a1), .unset] [(.int (1 : Int32))]))
  refine own_st (fun t k => XS.ifYes X1.here hx rfl (pc0 := 4) (pc' := 9) rfl (hb hby d4_4) rfl (by decide) (by decide) (by decide) k) ?_
  show own_Fin p e below _ (T1.setTop (mkF m 9 #[.val (.ref a1), .val (.ref a1), .unset] []))
  refine own_st (fun t k => XS.aloadN X1.here hx rfl (hb hby d4_9) rfl rfl k) ?_
  show own_Fin p e below _ (T1.setTop (mkF m 10 #[.val (.ref a1), .val (.ref a1), .unset] [(.ref a1)]))
  obtain ⟨T2, X2, e2, st2⟩ := castY X1 hx hZ hown (hw _ (List.mem_of_getElem? (i := 29) rfl)) e1 (Ins.self P0) (g := (mkF m 10 #[.val (.ref a1), .val (.ref a1), .unset] [(.ref a1)])) rfl rfl (hb hby d4_10)
  refine own_st st2 ?_
  show own_Fin p e below _ (T2.setTop (mkF m 13 #[.val (.ref a1), .val (.ref a1), .unset] [(.ref a1)]))
  refine own_st (fun t k => XS.astoreN X2.here hx rfl (hb hby d4_13) rfl rfl (l' := #[.val (.ref a1), .val (.ref a1), .val (.ref a1)]) rfl k) ?_
  show own_Fin p e below _ (T2.setTop (mkF m 14 #[.val (.ref a1), .val (.ref a1), .val (.ref a1)] []))
  refine own_st (fun t k => XS.aloadN X2.here hx rfl (hb hby d4_14) rfl rfl k) ?_
  show own_Fin p e below _ (T2.setTop (mkF m 15 #[.val (.ref a1), .val (.ref a1), .val (.ref a1)] [(.ref a1)]))
  obtain ⟨T3, X3, e3, st3⟩ := getF X2 hx hZ hown (host := "") (Or.inl (hw _ (List.mem_of_getElem? (i := 16) rfl))) Via.refl e2 P1 (g := (mkF m 15 #[.val (.ref a1), .val (.ref a1), .val (.ref a1)] [(.ref a1)])) rfl rfl (hb hby d4_15)
  refine own_st st3 ?_
  show own_Fin p e below _ (T3.setTop (mkF m 18 #[.val (.ref a1), .val (.ref a1), .val (.ref a1)] [(.ref a2)]))
  refine own_st (fun t k => XS.aloadN X3.here hx rfl (hb hby d4_18) rfl rfl k) ?_
  show own_Fin p e below _ (T3.setTop (mkF m 19 #[.val (.ref a1), .val (.ref a1), .val (.ref a1)] [(.ref a1), (.ref a2)]))
  obtain ⟨T4, X4, e4, st4⟩ := getF X3 hx hZ hown (host := "") (Or.inl (hw _ (List.mem_of_getElem? (i := 16) rfl))) Via.refl e3 P1 (g := (mkF m 19 #[.val (.ref a1), .val (.ref a1), .val (.ref a1)] [(.ref a1), (.ref a2)])) rfl rfl (hb hby d4_19)
  refine own_st st4 ?_
  show own_Fin p e below _ (T4.setTop (mkF m 22 #[.val (.ref a1), .val (.ref a1), .val (.ref a1)] [(.ref a2), (.ref a2)]))
  refine own_st (fun t k => Jvm.RoadKit.acmp (g := (mkF m 22 #[.val (.ref a1), .val (.ref a1), .val (.ref a1)] [(.ref a2), (.ref a2)])) X4 hx rfl rfl rfl (pc0 := 22) (pc' := 25) (same := true) rfl (hb hby d4_22) rfl (decide_eq_true rfl) (by decide) (by decide) k) ?_
  show own_Fin p e below _ (T4.setTop (mkF m 25 #[.val (.ref a1), .val (.ref a1), .val (.ref a1)] []))
  refine own_st (fun t k => XS.aloadN X4.here hx rfl (hb hby d4_25) rfl rfl k) ?_
  show own_Fin p e below _ (T4.setTop (mkF m 26 #[.val (.ref a1), .val (.ref a1), .val (.ref a1)] [(.ref a1)]))
  obtain ⟨T5, X5, e5, st5⟩ := getF X4 hx hZ hown (host := "") (Or.inl (hw _ (List.mem_of_getElem? (i := 18) rfl))) Via.refl e4 P2 (g := (mkF m 26 #[.val (.ref a1), .val (.ref a1), .val (.ref a1)] [(.ref a1)])) rfl rfl (hb hby d4_26)
  refine own_st st5 ?_
  show own_Fin p e below _ (T5.setTop (mkF m 29 #[.val (.ref a1), .val (.ref a1), .val (.ref a1)] [(.int i3)]))
  refine own_st (fun t k => XS.aloadN X5.here hx rfl (hb hby d4_29) rfl rfl k) ?_
  show own_Fin p e below _ (T5.setTop (mkF m 30 #[.val (.ref a1), .val (.ref a1), .val (.ref a1)] [(.ref a1), (.int i3)]))
  obtain ⟨T6, X6, e6, st6⟩ := getF X5 hx hZ hown (host := "") (Or.inl (hw _ (List.mem_of_getElem? (i := 18) rfl))) Via.refl e5 P2 (g := (mkF m 30 #[.val (.ref a1), .val (.ref a1), .val (.ref a1)] [(.ref a1), (.int i3)])) rfl rfl (hb hby d4_30)
  refine own_st st6 ?_
  show own_Fin p e below _ (T6.setTop (mkF m 33 #[.val (.ref a1), .val (.ref a1), .val (.ref a1)] [(.int i3), (.int i3)]))
  refine own_st (fun t k => XS.icmpNo X6.here hx rfl (hb hby d4_33) rfl (teq rfl).2 k) ?_
  show own_Fin p e below _ (T6.setTop (mkF m 36 #[.val (.ref a1), .val (.ref a1), .val (.ref a1)] []))
  refine own_st (fun t k => XS.aloadN X6.here hx rfl (hb hby d4_36) rfl rfl k) ?_
  show own_Fin p e below _ (T6.setTop (mkF m 37 #[.val (.ref a1), .val (.ref a1), .val (.ref a1)] [(.ref a1)]))
  obtain ⟨T7, X7, e7, st7⟩ := getF X6 hx hZ hown (host := "") (Or.inl (hw _ (List.mem_of_getElem? (i := 20) rfl))) Via.refl e6 P3 (g := (mkF m 37 #[.val (.ref a1), .val (.ref a1), .val (.ref a1)] [(.ref a1)])) rfl rfl (hb hby d4_37)
  refine own_st st7 ?_
  show own_Fin p e below _ (T7.setTop (mkF m 40 #[.val (.ref a1), .val (.ref a1), .val (.ref a1)] [(.long j4)]))
  refine own_st (fun t k => XS.aloadN X7.here hx rfl (hb hby d4_40) rfl rfl k) ?_
  show own_Fin p e below _ (T7.setTop (mkF m 41 #[.val (.ref a1), .val (.ref a1), .val (.ref a1)] [(.ref a1), (.long j4)]))
  obtain ⟨T8, X8, e8, st8⟩ := getF X7 hx hZ hown (host := "") (Or.inl (hw _ (List.mem_of_getElem? (i := 20) rfl))) Via.refl e7 P3 (g := (mkF m 41 #[.val (.ref a1), .val (.ref a1), .val (.ref a1)] [(.ref a1), (.long j4)])) rfl rfl (hb hby d4_41)
  refine own_st st8 ?_
  show own_Fin p e below _ (T8.setTop (mkF m 44 #[.val (.ref a1), .val (.ref a1), .val (.ref a1)] [(.long j4), (.long j4)]))
  refine own_st (fun t k => XS.lcmp X8.here hx rfl (hb hby d4_44) rfl k) ?_
  show own_Fin p e below _ (T8.setTop (mkF m 45 #[.val (.ref a1), .val (.ref a1), .val (.ref a1)] [(.int (lcmpW j4 j4))]))
  refine own_st (fun t k => XS.ifNo X8.here hx rfl (hb hby d4_45) rfl ((if0 _ _).trans (teq ((lw_eq j4 j4).2 rfl)).2) k) ?_
  show own_Fin p e below _ (T8.setTop (mkF m 48 #[.val (.ref a1), .val (.ref a1), .val (.ref a1)] []))
  refine own_st (fun t k => XS.aloadN X8.here hx rfl (hb hby d4_48) rfl rfl k) ?_
  show own_Fin p e below _ (T8.setTop (mkF m 49 #[.val (.ref a1), .val (.ref a1), .val (.ref a1)] [(.ref a1)]))
  obtain ⟨T9, X9, e9, st9⟩ := getF X8 hx hZ hown (host := "") (Or.inl (hw _ (List.mem_of_getElem? (i := 22) rfl))) Via.refl e8 P5 (g := (mkF m 49 #[.val (.ref a1), .val (.ref a1), .val (.ref a1)] [(.ref a1)])) rfl rfl (hb hby d4_49)
  refine own_st st9 ?_
  show own_Fin p e below _ (T9.setTop (mkF m 52 #[.val (.ref a1), .val (.ref a1), .val (.ref a1)] [(.int i5)]))
  refine own_st (fun t k => XS.aloadN X9.here hx rfl (hb hby d4_52) rfl rfl k) ?_
  show own_Fin p e below _ (T9.setTop (mkF m 53 #[.val (.ref a1), .val (.ref a1), .val (.ref a1)] [(.ref a1), (.int i5)]))
  obtain ⟨T10, X10, e10, st10⟩ := getF X9 hx hZ hown (host := "") (Or.inl (hw _ (List.mem_of_getElem? (i := 22) rfl))) Via.refl e9 P5 (g := (mkF m 53 #[.val (.ref a1), .val (.ref a1), .val (.ref a1)] [(.ref a1), (.int i5)])) rfl rfl (hb hby d4_53)
  refine own_st st10 ?_
  show own_Fin p e below _ (T10.setTop (mkF m 56 #[.val (.ref a1), .val (.ref a1), .val (.ref a1)] [(.int i5), (.int i5)]))
  refine own_st (fun t k => XS.icmpNo X10.here hx rfl (hb hby d4_56) rfl (teq rfl).2 k) ?_
  show own_Fin p e below _ (T10.setTop (mkF m 59 #[.val (.ref a1), .val (.ref a1), .val (.ref a1)] []))
  refine own_st (fun t k => XS.iconst X10.here hx rfl (hb hby d4_59) k) ?_
  show own_Fin p e below _ (T10.setTop (mkF m 60 #[.val (.ref a1), .val (.ref a1), .val (.ref a1)] [(.int (1 : Int32))]))
  refine own_st (fun t k => XS.goto X10.here hx rfl (pc0 := 60) (pc' := 64) rfl (hb hby d4_60) (by decide) (by decide) k) ?_
  show own_Fin p e below _ (T10.setTop (mkF m 64 #[.val (.ref a1), .val (.ref a1), .val (.ref a1)] [(.int (1 : Int32))]))
  obtain ⟨fs, hr, hrun, hended, hW, hsame⟩ := X10.leave (v := some (.int (1 : Int32))) (fun h => by rw [Bd.returns] at h; cases h)
  exact ⟨_, _, retN X10 hx (t := .boolean) Bd.returns (by simp) (hb hby d4_64) hr, hrun, hended, _, _, rfl, ⟨rfl, N0, e10⟩, ⟨_, rfl⟩, hW, hsame.mono (by decide) (by decide)⟩
set_option maxRecDepth 65536 in
set_option maxHeartbeats 40000000 in
theorem rm4_5 (l : Launch) (Z : State) (a0 : Array Value) (hw : ∀ d ∈ tables_1, d.before a0 Z = true) (ws : List Jvm.Cond) (a1 : Addr) (a2 : Addr) (a3 : Addr) (a4 : Addr) (i5 : Int32) (i6 : Int32) (j7 : Int64) (j8 : Int64) (i9 : Int32) (i10 : Int32) (h0 : Heap) (n0 : Nat) (Z0 : n0 ≤ Array.size h0) (P0 : Exa Z h0 a2 "com/example/deioces/deioces/Message") (P1 : Fld Z h0 a1 "com/example/deioces/deioces/Message" "kind" "Lcom/example/deioces/deioces/Message$Kind;" (.ref a3)) (P2 : Fld Z h0 a2 "com/example/deioces/deioces/Message" "kind" "Lcom/example/deioces/deioces/Message$Kind;" (.ref a4)) (P3 : Fld Z h0 a1 "com/example/deioces/deioces/Message" "sender" "I" (.int i5)) (P4 : Fld Z h0 a2 "com/example/deioces/deioces/Message" "sender" "I" (.int i6)) (P5 : Fld Z h0 a1 "com/example/deioces/deioces/Message" "stamp" "J" (.long j7)) (P6 : Fld Z h0 a2 "com/example/deioces/deioces/Message" "stamp" "J" (.long j8)) (P7 : i9 = 0 ∨ i9 = 1) (P8 : Fld Z h0 a1 "com/example/deioces/deioces/Message" "supportive" "Z" (.int i9)) (P9 : i10 = 0 ∨ i10 = 1) (P10 : Fld Z h0 a2 "com/example/deioces/deioces/Message" "supportive" "Z" (.int i10)) :
    MetFree l (⟨"com/example/deioces/deioces/Message", "equals", "(Ljava/lang/Object;)Z"⟩ : MethodName) (head1 (Jvm.Cond.code (⟨"com/example/deioces/deioces/Message", "equals", "(Ljava/lang/Object;)Z"⟩ : MethodName) prog_30_method_10_code 3 (some .boolean) :: ws) ({ frames := 0, cells := 0, slots := 0, locals := 0 } : Room)) (fun a U => a = #[(.ref a1), (.ref a2)] ∧ Z.Warmed39 U.vm ∧ U.heap = h0) (fun _ _ _ _ _ => True) (fun _ U o U' => ∃ v L, o = .returned v ∧ own_Q h0 n0 (some (.int (own_eq a3 a4 i5 i6 j7 j8 i9 i10))) v U'.heap L ∧ FrameEnd U o U' L ({ frames := 0, cells := 0, slots := 0, locals := 0 } : Room).cells ({ frames := 0, cells := 0, slots := 0, locals := 0 } : Room).slots) := by
  refine MetFree.of_bodySF (plainFor_of_name pn_com_example_deioces_deioces_Message) hisR ?_
  intro p e s m args below meth c s₁ Bd hml0 hP hK
  obtain ⟨rfl, hZ, hh⟩ := hP
  have hx := Bd.exec
  have hby := Bd.bytes
  have hml : c.maxLocals = 3 := hml0
  have hown : s.vm.findClass "com/example/deioces/deioces/Message" = some m.cls := findClass_of_methodNamed Bd.named
  have hnm := (name_of_methodNamed Bd.named Bd.method).1
  have X0 : Stand p l e ({ frames := 0, cells := 0, slots := 0, locals := 0 } : Room) s m #[(.ref a1), (.ref a2)] below meth c s₁ [] 0 0 := Stand.of_body Bd
  have e0 : s₁.heap = h0 := by rw [← hh, Bd.state]; rfl
  have N0 := Fr.nil n0
  refine (?_ : own_Fin p e below _ _)
  refine own_st (fun t k => castTop (ef_4_RR m a1 a2) k) ?_
  show own_Fin p e below _ (s₁.setTop (mkF m 0 #[.val (.ref a1), .val (.ref a2), .unset] []))
  refine own_st (fun t k => XS.aloadN X0.here hx rfl (hb hby d4_0) rfl rfl k) ?_
  show own_Fin p e below _ (s₁.setTop (mkF m 1 #[.val (.ref a1), .val (.ref a2), .unset] [(.ref a2)]))
  obtain ⟨T1, X1, e1, st1⟩ := instY X0 hx hZ hown (hw _ (List.mem_of_getElem? (i := 29) rfl)) e0 (Ins.self P0) (g := (mkF m 1 #[.val (.ref a1), .val (.ref a2), .unset] [(.ref a2)])) rfl rfl (hb hby d4_1)
  refine own_st st1 ?_
  show own_Fin p e below _ (T1.setTop (mkF m 4 #[.val (.ref a1), .val (.ref a2), .unset] [(.int (1 : Int32))]))
  refine own_st (fun t k => XS.ifYes X1.here hx rfl (pc0 := 4) (pc' := 9) rfl (hb hby d4_4) rfl (by decide) (by decide) (by decide) k) ?_
  show own_Fin p e below _ (T1.setTop (mkF m 9 #[.val (.ref a1), .val (.ref a2), .unset] []))
  refine own_st (fun t k => XS.aloadN X1.here hx rfl (hb hby d4_9) rfl rfl k) ?_
  show own_Fin p e below _ (T1.setTop (mkF m 10 #[.val (.ref a1), .val (.ref a2), .unset] [(.ref a2)]))
  obtain ⟨T2, X2, e2, st2⟩ := castY X1 hx hZ hown (hw _ (List.mem_of_getElem? (i := 29) rfl)) e1 (Ins.self P0) (g := (mkF m 10 #[.val (.ref a1), .val (.ref a2), .unset] [(.ref a2)])) rfl rfl (hb hby d4_10)
  refine own_st st2 ?_
  show own_Fin p e below _ (T2.setTop (mkF m 13 #[.val (.ref a1), .val (.ref a2), .unset] [(.ref a2)]))
  refine own_st (fun t k => XS.astoreN X2.here hx rfl (hb hby d4_13) rfl rfl (l' := #[.val (.ref a1), .val (.ref a2), .val (.ref a2)]) rfl k) ?_
  show own_Fin p e below _ (T2.setTop (mkF m 14 #[.val (.ref a1), .val (.ref a2), .val (.ref a2)] []))
  refine own_st (fun t k => XS.aloadN X2.here hx rfl (hb hby d4_14) rfl rfl k) ?_
  show own_Fin p e below _ (T2.setTop (mkF m 15 #[.val (.ref a1), .val (.ref a2), .val (.ref a2)] [(.ref a1)]))
  obtain ⟨T3, X3, e3, st3⟩ := getF X2 hx hZ hown (host := "") (Or.inl (hw _ (List.mem_of_getElem? (i := 16) rfl))) Via.refl e2 P1 (g := (mkF m 15 #[.val (.ref a1), .val (.ref a2), .val (.ref a2)] [(.ref a1)])) rfl rfl (hb hby d4_15)
  refine own_st st3 ?_
  show own_Fin p e below _ (T3.setTop (mkF m 18 #[.val (.ref a1), .val (.ref a2), .val (.ref a2)] [(.ref a3)]))
  refine own_st (fun t k => XS.aloadN X3.here hx rfl (hb hby d4_18) rfl rfl k) ?_
  show own_Fin p e below _ (T3.setTop (mkF m 19 #[.val (.ref a1), .val (.ref a2), .val (.ref a2)] [(.ref a2), (.ref a3)]))
  obtain ⟨T4, X4, e4, st4⟩ := getF X3 hx hZ hown (host := "") (Or.inl (hw _ (List.mem_of_getElem? (i := 16) rfl))) Via.refl e3 P2 (g := (mkF m 19 #[.val (.ref a1), .val (.ref a2), .val (.ref a2)] [(.ref a2), (.ref a3)])) rfl rfl (hb hby d4_19)
  refine own_st st4 ?_
  show own_Fin p e below _ (T4.setTop (mkF m 22 #[.val (.ref a1), .val (.ref a2), .val (.ref a2)] [(.ref a4), (.ref a3)]))
  by_cases qA5 : a3 = a4
  ·
    refine own_st (fun t k => Jvm.RoadKit.acmp (g := (mkF m 22 #[.val (.ref a1), .val (.ref a2), .val (.ref a2)] [(.ref a4), (.ref a3)])) X4 hx rfl rfl rfl (pc0 := 22) (pc' := 25) (same := true) rfl (hb hby d4_22) rfl (decide_eq_true (congrArg Value.ref qA5)) (by decide) (by decide) k) ?_
    show own_Fin p e below _ (T4.setTop (mkF m 25 #[.val (.ref a1), .val (.ref a2), .val (.ref a2)] []))
    refine own_st (fun t k => XS.aloadN X4.here hx rfl (hb hby d4_25) rfl rfl k) ?_
    show own_Fin p e below _ (T4.setTop (mkF m 26 #[.val (.ref a1), .val (.ref a2), .val (.ref a2)] [(.ref a1)]))
    obtain ⟨T6, X6, e6, st6⟩ := getF X4 hx hZ hown (host := "") (Or.inl (hw _ (List.mem_of_getElem? (i := 18) rfl))) Via.refl e4 P3 (g := (mkF m 26 #[.val (.ref a1), .val (.ref a2), .val (.ref a2)] [(.ref a1)])) rfl rfl (hb hby d4_26)
    refine own_st st6 ?_
    show own_Fin p e below _ (T6.setTop (mkF m 29 #[.val (.ref a1), .val (.ref a2), .val (.ref a2)] [(.int i5)]))
    refine own_st (fun t k => XS.aloadN X6.here hx rfl (hb hby d4_29) rfl rfl k) ?_
    show own_Fin p e below _ (T6.setTop (mkF m 30 #[.val (.ref a1), .val (.ref a2), .val (.ref a2)] [(.ref a2), (.int i5)]))
    obtain ⟨T7, X7, e7, st7⟩ := getF X6 hx hZ hown (host := "") (Or.inl (hw _ (List.mem_of_getElem? (i := 18) rfl))) Via.refl e6 P4 (g := (mkF m 30 #[.val (.ref a1), .val (.ref a2), .val (.ref a2)] [(.ref a2), (.int i5)])) rfl rfl (hb hby d4_30)
    refine own_st st7 ?_
    show own_Fin p e below _ (T7.setTop (mkF m 33 #[.val (.ref a1), .val (.ref a2), .val (.ref a2)] [(.int i6), (.int i5)]))
    by_cases qF8 : i5 = i6
    ·
      refine own_st (fun t k => XS.icmpNo X7.here hx rfl (hb hby d4_33) rfl (teq qF8).2 k) ?_
      show own_Fin p e below _ (T7.setTop (mkF m 36 #[.val (.ref a1), .val (.ref a2), .val (.ref a2)] []))
      refine own_st (fun t k => XS.aloadN X7.here hx rfl (hb hby d4_36) rfl rfl k) ?_
      show own_Fin p e below _ (T7.setTop (mkF m 37 #[.val (.ref a1), .val (.ref a2), .val (.ref a2)] [(.ref a1)]))
      obtain ⟨T9, X9, e9, st9⟩ := getF X7 hx hZ hown (host := "") (Or.inl (hw _ (List.mem_of_getElem? (i := 20) rfl))) Via.refl e7 P5 (g := (mkF m 37 #[.val (.ref a1), .val (.ref a2), .val (.ref a2)] [(.ref a1)])) rfl rfl (hb hby d4_37)
      refine own_st st9 ?_
      show own_Fin p e below _ (T9.setTop (mkF m 40 #[.val (.ref a1), .val (.ref a2), .val (.ref a2)] [(.long j7)]))
      refine own_st (fun t k => XS.aloadN X9.here hx rfl (hb hby d4_40) rfl rfl k) ?_
      show own_Fin p e below _ (T9.setTop (mkF m 41 #[.val (.ref a1), .val (.ref a2), .val (.ref a2)] [(.ref a2), (.long j7)]))
      obtain ⟨T10, X10, e10, st10⟩ := getF X9 hx hZ hown (host := "") (Or.inl (hw _ (List.mem_of_getElem? (i := 20) rfl))) Via.refl e9 P6 (g := (mkF m 41 #[.val (.ref a1), .val (.ref a2), .val (.ref a2)] [(.ref a2), (.long j7)])) rfl rfl (hb hby d4_41)
      refine own_st st10 ?_
      show own_Fin p e below _ (T10.setTop (mkF m 44 #[.val (.ref a1), .val (.ref a2), .val (.ref a2)] [(.long j8), (.long j7)]))
      refine own_st (fun t k => XS.lcmp X10.here hx rfl (hb hby d4_44) rfl k) ?_
      show own_Fin p e below _ (T10.setTop (mkF m 45 #[.val (.ref a1), .val (.ref a2), .val (.ref a2)] [(.int (lcmpW j7 j8))]))
      by_cases qF11 : j7 = j8
      ·
        refine own_st (fun t k => XS.ifNo X10.here hx rfl (hb hby d4_45) rfl ((if0 _ _).trans (teq (Iff.mpr (lw_eq _ _) qF11)).2) k) ?_
        show own_Fin p e below _ (T10.setTop (mkF m 48 #[.val (.ref a1), .val (.ref a2), .val (.ref a2)] []))
        refine own_st (fun t k => XS.aloadN X10.here hx rfl (hb hby d4_48) rfl rfl k) ?_
        show own_Fin p e below _ (T10.setTop (mkF m 49 #[.val (.ref a1), .val (.ref a2), .val (.ref a2)] [(.ref a1)]))
        obtain ⟨T12, X12, e12, st12⟩ := getF X10 hx hZ hown (host := "") (Or.inl (hw _ (List.mem_of_getElem? (i := 22) rfl))) Via.refl e10 P8 (g := (mkF m 49 #[.val (.ref a1), .val (.ref a2), .val (.ref a2)] [(.ref a1)])) rfl rfl (hb hby d4_49)
        refine own_st st12 ?_
        show own_Fin p e below _ (T12.setTop (mkF m 52 #[.val (.ref a1), .val (.ref a2), .val (.ref a2)] [(.int i9)]))
        refine own_st (fun t k => XS.aloadN X12.here hx rfl (hb hby d4_52) rfl rfl k) ?_
        show own_Fin p e below _ (T12.setTop (mkF m 53 #[.val (.ref a1), .val (.ref a2), .val (.ref a2)] [(.ref a2), (.int i9)]))
        obtain ⟨T13, X13, e13, st13⟩ := getF X12 hx hZ hown (host := "") (Or.inl (hw _ (List.mem_of_getElem? (i := 22) rfl))) Via.refl e12 P10 (g := (mkF m 53 #[.val (.ref a1), .val (.ref a2), .val (.ref a2)] [(.ref a2), (.int i9)])) rfl rfl (hb hby d4_53)
        refine own_st st13 ?_
        show own_Fin p e below _ (T13.setTop (mkF m 56 #[.val (.ref a1), .val (.ref a2), .val (.ref a2)] [(.int i10), (.int i9)]))
        by_cases qF14 : i9 = i10
        ·
          refine own_st (fun t k => XS.icmpNo X13.here hx rfl (hb hby d4_56) rfl (teq qF14).2 k) ?_
          show own_Fin p e below _ (T13.setTop (mkF m 59 #[.val (.ref a1), .val (.ref a2), .val (.ref a2)] []))
          refine own_st (fun t k => XS.iconst X13.here hx rfl (hb hby d4_59) k) ?_
          show own_Fin p e below _ (T13.setTop (mkF m 60 #[.val (.ref a1), .val (.ref a2), .val (.ref a2)] [(.int (1 : Int32))]))
          refine own_st (fun t k => XS.goto X13.here hx rfl (pc0 := 60) (pc' := 64) rfl (hb hby d4_60) (by decide) (by decide) k) ?_
          show own_Fin p e below _ (T13.setTop (mkF m 64 #[.val (.ref a1), .val (.ref a2), .val (.ref a2)] [(.int (1 : Int32))]))
          obtain ⟨fs, hr, hrun, hended, hW, hsame⟩ := X13.leave (v := some (.int (1 : Int32))) (fun h => by rw [Bd.returns] at h; cases h)
          exact ⟨_, _, retN X13 hx (t := .boolean) Bd.returns (by simp) (hb hby d4_64) hr, hrun, hended, _, _, rfl, ⟨(by simp [own_eq, qA5, qF8, qF11, qF14]), N0, e13⟩, ⟨_, rfl⟩, hW, hsame.mono (by decide) (by decide)⟩
        ·
          refine own_st (fun t k => XS.icmpYes X13.here hx rfl (pc0 := 56) (pc' := 63) rfl (hb hby d4_56) rfl (feq qF14).2 (by decide) (by decide) k) ?_
          show own_Fin p e below _ (T13.setTop (mkF m 63 #[.val (.ref a1), .val (.ref a2), .val (.ref a2)] []))
          refine own_st (fun t k => XS.iconst X13.here hx rfl (hb hby d4_63) k) ?_
          show own_Fin p e below _ (T13.setTop (mkF m 64 #[.val (.ref a1), .val (.ref a2), .val (.ref a2)] [(.int (0 : Int32))]))
          obtain ⟨fs, hr, hrun, hended, hW, hsame⟩ := X13.leave (v := some (.int (0 : Int32))) (fun h => by rw [Bd.returns] at h; cases h)
          exact ⟨_, _, retN X13 hx (t := .boolean) Bd.returns (by simp) (hb hby d4_64) hr, hrun, hended, _, _, rfl, ⟨(by simp [own_eq, qA5, qF8, qF11, qF14]), N0, e13⟩, ⟨_, rfl⟩, hW, hsame.mono (by decide) (by decide)⟩
      ·
        refine own_st (fun t k => XS.ifYes X10.here hx rfl (pc0 := 45) (pc' := 63) rfl (hb hby d4_45) rfl ((if0 _ _).trans (feq (mt (lw_eq _ _).1 qF11)).2) (by decide) (by decide) k) ?_
        show own_Fin p e below _ (T10.setTop (mkF m 63 #[.val (.ref a1), .val (.ref a2), .val (.ref a2)] []))
        refine own_st (fun t k => XS.iconst X10.here hx rfl (hb hby d4_63) k) ?_
        show own_Fin p e below _ (T10.setTop (mkF m 64 #[.val (.ref a1), .val (.ref a2), .val (.ref a2)] [(.int (0 : Int32))]))
        obtain ⟨fs, hr, hrun, hended, hW, hsame⟩ := X10.leave (v := some (.int (0 : Int32))) (fun h => by rw [Bd.returns] at h; cases h)
        exact ⟨_, _, retN X10 hx (t := .boolean) Bd.returns (by simp) (hb hby d4_64) hr, hrun, hended, _, _, rfl, ⟨(by simp [own_eq, qA5, qF8, qF11]), N0, e10⟩, ⟨_, rfl⟩, hW, hsame.mono (by decide) (by decide)⟩
    ·
      refine own_st (fun t k => XS.icmpYes X7.here hx rfl (pc0 := 33) (pc' := 63) rfl (hb hby d4_33) rfl (feq qF8).2 (by decide) (by decide) k) ?_
      show own_Fin p e below _ (T7.setTop (mkF m 63 #[.val (.ref a1), .val (.ref a2), .val (.ref a2)] []))
      refine own_st (fun t k => XS.iconst X7.here hx rfl (hb hby d4_63) k) ?_
      show own_Fin p e below _ (T7.setTop (mkF m 64 #[.val (.ref a1), .val (.ref a2), .val (.ref a2)] [(.int (0 : Int32))]))
      obtain ⟨fs, hr, hrun, hended, hW, hsame⟩ := X7.leave (v := some (.int (0 : Int32))) (fun h => by rw [Bd.returns] at h; cases h)
      exact ⟨_, _, retN X7 hx (t := .boolean) Bd.returns (by simp) (hb hby d4_64) hr, hrun, hended, _, _, rfl, ⟨(by simp [own_eq, qA5, qF8]), N0, e7⟩, ⟨_, rfl⟩, hW, hsame.mono (by decide) (by decide)⟩
  ·
    refine own_st (fun t k => Jvm.RoadKit.acmp (g := (mkF m 22 #[.val (.ref a1), .val (.ref a2), .val (.ref a2)] [(.ref a4), (.ref a3)])) X4 hx rfl rfl rfl (pc0 := 22) (pc' := 63) (same := false) rfl (hb hby d4_22) rfl (decide_eq_false fun q => qA5 (Value.ref.inj q)) (by decide) (by decide) k) ?_
    show own_Fin p e below _ (T4.setTop (mkF m 63 #[.val (.ref a1), .val (.ref a2), .val (.ref a2)] []))
    refine own_st (fun t k => XS.iconst X4.here hx rfl (hb hby d4_63) k) ?_
    show own_Fin p e below _ (T4.setTop (mkF m 64 #[.val (.ref a1), .val (.ref a2), .val (.ref a2)] [(.int (0 : Int32))]))
    obtain ⟨fs, hr, hrun, hended, hW, hsame⟩ := X4.leave (v := some (.int (0 : Int32))) (fun h => by rw [Bd.returns] at h; cases h)
    exact ⟨_, _, retN X4 hx (t := .boolean) Bd.returns (by simp) (hb hby d4_64) hr, hrun, hended, _, _, rfl, ⟨(by simp [own_eq, qA5]), N0, e4⟩, ⟨_, rfl⟩, hW, hsame.mono (by decide) (by decide)⟩
set_option maxRecDepth 65536 in
set_option maxHeartbeats 40000000 in
theorem rm4_6 (l : Launch) (Z : State) (a0 : Array Value) (hw : ∀ d ∈ tables_1, d.before a0 Z = true) (ws : List Jvm.Cond) (a1 : Addr) (a2 : Addr) (a3 : Addr) (a4 : Addr) (i5 : Int32) (i6 : Int32) (j7 : Int64) (j8 : Int64) (i9 : Int32) (i10 : Int32) (h0 : Heap) (n0 : Nat) (Z0 : n0 ≤ Array.size h0) (P0 : Exa Z h0 a2 "com/example/deioces/deioces/Message") (P1 : Fld Z h0 a1 "com/example/deioces/deioces/Message" "kind" "Lcom/example/deioces/deioces/Message$Kind;" (.ref a3)) (P2 : Fld Z h0 a2 "com/example/deioces/deioces/Message" "kind" "Lcom/example/deioces/deioces/Message$Kind;" (.ref a4)) (P3 : Fld Z h0 a1 "com/example/deioces/deioces/Message" "sender" "I" (.int i5)) (P4 : Fld Z h0 a2 "com/example/deioces/deioces/Message" "sender" "I" (.int i6)) (P5 : Fld Z h0 a1 "com/example/deioces/deioces/Message" "stamp" "J" (.long j7)) (P6 : Fld Z h0 a2 "com/example/deioces/deioces/Message" "stamp" "J" (.long j8)) (P7 : i9 = 0 ∨ i9 = 1) (P8 : Fld Z h0 a1 "com/example/deioces/deioces/Message" "supportive" "Z" (.int i9)) (P9 : i10 = 0 ∨ i10 = 1) (P10 : Fld Z h0 a2 "com/example/deioces/deioces/Message" "supportive" "Z" (.int i10)) :
    MetFree l (⟨"com/example/deioces/deioces/Message", "equals", "(Ljava/lang/Object;)Z"⟩ : MethodName) (head1 (Jvm.Cond.code (⟨"com/example/deioces/deioces/Message", "equals", "(Ljava/lang/Object;)Z"⟩ : MethodName) prog_30_method_10_code 3 (some .boolean) :: ws) ({ frames := 0, cells := 0, slots := 0, locals := 0 } : Room)) (fun a U => a = #[(.ref a1), (.ref a2)] ∧ Z.Warmed39 U.vm ∧ U.heap = h0) (fun _ _ _ _ _ => True) (fun _ U o U' => ∃ v L, o = .returned v ∧ own_Q h0 n0 (some (.int (own_eq a3 a4 i5 i6 j7 j8 i9 i10))) v U'.heap L ∧ FrameEnd U o U' L ({ frames := 0, cells := 0, slots := 0, locals := 0 } : Room).cells ({ frames := 0, cells := 0, slots := 0, locals := 0 } : Room).slots) := by
  refine MetFree.of_bodySF (plainFor_of_name pn_com_example_deioces_deioces_Message) hisR ?_
  intro p e s m args below meth c s₁ Bd hml0 hP hK
  obtain ⟨rfl, hZ, hh⟩ := hP
  have hx := Bd.exec
  have hby := Bd.bytes
  have hml : c.maxLocals = 3 := hml0
  have hown : s.vm.findClass "com/example/deioces/deioces/Message" = some m.cls := findClass_of_methodNamed Bd.named
  have hnm := (name_of_methodNamed Bd.named Bd.method).1
  have X0 : Stand p l e ({ frames := 0, cells := 0, slots := 0, locals := 0 } : Room) s m #[(.ref a1), (.ref a2)] below meth c s₁ [] 0 0 := Stand.of_body Bd
  have e0 : s₁.heap = h0 := by rw [← hh, Bd.state]; rfl
  have N0 := Fr.nil n0
  refine (?_ : own_Fin p e below _ _)
  refine own_st (fun t k => castTop (ef_4_RR m a1 a2) k) ?_
  show own_Fin p e below _ (s₁.setTop (mkF m 0 #[.val (.ref a1), .val (.ref a2), .unset] []))
  refine own_st (fun t k => XS.aloadN X0.here hx rfl (hb hby d4_0) rfl rfl k) ?_
  show own_Fin p e below _ (s₁.setTop (mkF m 1 #[.val (.ref a1), .val (.ref a2), .unset] [(.ref a2)]))
  obtain ⟨T1, X1, e1, st1⟩ := instY X0 hx hZ hown (hw _ (List.mem_of_getElem? (i := 29) rfl)) e0 (Ins.self P0) (g := (mkF m 1 #[.val (.ref a1), .val (.ref a2), .unset] [(.ref a2)])) rfl rfl (hb hby d4_1)
  refine own_st st1 ?_
  show own_Fin p e below _ (T1.setTop (mkF m 4 #[.val (.ref a1), .val (.ref a2), .unset] [(.int (1 : Int32))]))
  refine own_st (fun t k => XS.ifYes X1.here hx rfl (pc0 := 4) (pc' := 9) rfl (hb hby d4_4) rfl (by decide) (by decide) (by decide) k) ?_
  show own_Fin p e below _ (T1.setTop (mkF m 9 #[.val (.ref a1), .val (.ref a2), .unset] []))
  refine own_st (fun t k => XS.aloadN X1.here hx rfl (hb hby d4_9) rfl rfl k) ?_
  show own_Fin p e below _ (T1.setTop (mkF m 10 #[.val (.ref a1), .val (.ref a2), .unset] [(.ref a2)]))
  obtain ⟨T2, X2, e2, st2⟩ := castY X1 hx hZ hown (hw _ (List.mem_of_getElem? (i := 29) rfl)) e1 (Ins.self P0) (g := (mkF m 10 #[.val (.ref a1), .val (.ref a2), .unset] [(.ref a2)])) rfl rfl (hb hby d4_10)
  refine own_st st2 ?_
  show own_Fin p e below _ (T2.setTop (mkF m 13 #[.val (.ref a1), .val (.ref a2), .unset] [(.ref a2)]))
  refine own_st (fun t k => XS.astoreN X2.here hx rfl (hb hby d4_13) rfl rfl (l' := #[.val (.ref a1), .val (.ref a2), .val (.ref a2)]) rfl k) ?_
  show own_Fin p e below _ (T2.setTop (mkF m 14 #[.val (.ref a1), .val (.ref a2), .val (.ref a2)] []))
  refine own_st (fun t k => XS.aloadN X2.here hx rfl (hb hby d4_14) rfl rfl k) ?_
  show own_Fin p e below _ (T2.setTop (mkF m 15 #[.val (.ref a1), .val (.ref a2), .val (.ref a2)] [(.ref a1)]))
  obtain ⟨T3, X3, e3, st3⟩ := getF X2 hx hZ hown (host := "") (Or.inl (hw _ (List.mem_of_getElem? (i := 16) rfl))) Via.refl e2 P1 (g := (mkF m 15 #[.val (.ref a1), .val (.ref a2), .val (.ref a2)] [(.ref a1)])) rfl rfl (hb hby d4_15)
  refine own_st st3 ?_
  show own_Fin p e below _ (T3.setTop (mkF m 18 #[.val (.ref a1), .val (.ref a2), .val (.ref a2)] [(.ref a3)]))
  refine own_st (fun t k => XS.aloadN X3.here hx rfl (hb hby d4_18) rfl rfl k) ?_
  show own_Fin p e below _ (T3.setTop (mkF m 19 #[.val (.ref a1), .val (.ref a2), .val (.ref a2)] [(.ref a2), (.ref a3)]))
  obtain ⟨T4, X4, e4, st4⟩ := getF X3 hx hZ hown (host := "") (Or.inl (hw _ (List.mem_of_getElem? (i := 16) rfl))) Via.refl e3 P2 (g := (mkF m 19 #[.val (.ref a1), .val (.ref a2), .val (.ref a2)] [(.ref a2), (.ref a3)])) rfl rfl (hb hby d4_19)
  refine own_st st4 ?_
  show own_Fin p e below _ (T4.setTop (mkF m 22 #[.val (.ref a1), .val (.ref a2), .val (.ref a2)] [(.ref a4), (.ref a3)]))
  by_cases qA5 : a3 = a4
  ·
    refine own_st (fun t k => Jvm.RoadKit.acmp (g := (mkF m 22 #[.val (.ref a1), .val (.ref a2), .val (.ref a2)] [(.ref a4), (.ref a3)])) X4 hx rfl rfl rfl (pc0 := 22) (pc' := 25) (same := true) rfl (hb hby d4_22) rfl (decide_eq_true (congrArg Value.ref qA5)) (by decide) (by decide) k) ?_
    show own_Fin p e below _ (T4.setTop (mkF m 25 #[.val (.ref a1), .val (.ref a2), .val (.ref a2)] []))
    refine own_st (fun t k => XS.aloadN X4.here hx rfl (hb hby d4_25) rfl rfl k) ?_
    show own_Fin p e below _ (T4.setTop (mkF m 26 #[.val (.ref a1), .val (.ref a2), .val (.ref a2)] [(.ref a1)]))
    obtain ⟨T6, X6, e6, st6⟩ := getF X4 hx hZ hown (host := "") (Or.inl (hw _ (List.mem_of_getElem? (i := 18) rfl))) Via.refl e4 P3 (g := (mkF m 26 #[.val (.ref a1), .val (.ref a2), .val (.ref a2)] [(.ref a1)])) rfl rfl (hb hby d4_26)
    refine own_st st6 ?_
    show own_Fin p e below _ (T6.setTop (mkF m 29 #[.val (.ref a1), .val (.ref a2), .val (.ref a2)] [(.int i5)]))
    refine own_st (fun t k => XS.aloadN X6.here hx rfl (hb hby d4_29) rfl rfl k) ?_
    show own_Fin p e below _ (T6.setTop (mkF m 30 #[.val (.ref a1), .val (.ref a2), .val (.ref a2)] [(.ref a2), (.int i5)]))
    obtain ⟨T7, X7, e7, st7⟩ := getF X6 hx hZ hown (host := "") (Or.inl (hw _ (List.mem_of_getElem? (i := 18) rfl))) Via.refl e6 P4 (g := (mkF m 30 #[.val (.ref a1), .val (.ref a2), .val (.ref a2)] [(.ref a2), (.int i5)])) rfl rfl (hb hby d4_30)
    refine own_st st7 ?_
    show own_Fin p e below _ (T7.setTop (mkF m 33 #[.val (.ref a1), .val (.ref a2), .val (.ref a2)] [(.int i6), (.int i5)]))
    by_cases qF8 : i5 = i6
    ·
      refine own_st (fun t k => XS.icmpNo X7.here hx rfl (hb hby d4_33) rfl (teq qF8).2 k) ?_
      show own_Fin p e below _ (T7.setTop (mkF m 36 #[.val (.ref a1), .val (.ref a2), .val (.ref a2)] []))
      refine own_st (fun t k => XS.aloadN X7.here hx rfl (hb hby d4_36) rfl rfl k) ?_
      show own_Fin p e below _ (T7.setTop (mkF m 37 #[.val (.ref a1), .val (.ref a2), .val (.ref a2)] [(.ref a1)]))
      obtain ⟨T9, X9, e9, st9⟩ := getF X7 hx hZ hown (host := "") (Or.inl (hw _ (List.mem_of_getElem? (i := 20) rfl))) Via.refl e7 P5 (g := (mkF m 37 #[.val (.ref a1), .val (.ref a2), .val (.ref a2)] [(.ref a1)])) rfl rfl (hb hby d4_37)
      refine own_st st9 ?_
      show own_Fin p e below _ (T9.setTop (mkF m 40 #[.val (.ref a1), .val (.ref a2), .val (.ref a2)] [(.long j7)]))
      refine own_st (fun t k => XS.aloadN X9.here hx rfl (hb hby d4_40) rfl rfl k) ?_
      show own_Fin p e below _ (T9.setTop (mkF m 41 #[.val (.ref a1), .val (.ref a2), .val (.ref a2)] [(.ref a2), (.long j7)]))
      obtain ⟨T10, X10, e10, st10⟩ := getF X9 hx hZ hown (host := "") (Or.inl (hw _ (List.mem_of_getElem? (i := 20) rfl))) Via.refl e9 P6 (g := (mkF m 41 #[.val (.ref a1), .val (.ref a2), .val (.ref a2)] [(.ref a2), (.long j7)])) rfl rfl (hb hby d4_41)
      refine own_st st10 ?_
      show own_Fin p e below _ (T10.setTop (mkF m 44 #[.val (.ref a1), .val (.ref a2), .val (.ref a2)] [(.long j8), (.long j7)]))
      refine own_st (fun t k => XS.lcmp X10.here hx rfl (hb hby d4_44) rfl k) ?_
      show own_Fin p e below _ (T10.setTop (mkF m 45 #[.val (.ref a1), .val (.ref a2), .val (.ref a2)] [(.int (lcmpW j7 j8))]))
      by_cases qF11 : j7 = j8
      ·
        refine own_st (fun t k => XS.ifNo X10.here hx rfl (hb hby d4_45) rfl ((if0 _ _).trans (teq (Iff.mpr (lw_eq _ _) qF11)).2) k) ?_
        show own_Fin p e below _ (T10.setTop (mkF m 48 #[.val (.ref a1), .val (.ref a2), .val (.ref a2)] []))
        refine own_st (fun t k => XS.aloadN X10.here hx rfl (hb hby d4_48) rfl rfl k) ?_
        show own_Fin p e below _ (T10.setTop (mkF m 49 #[.val (.ref a1), .val (.ref a2), .val (.ref a2)] [(.ref a1)]))
        obtain ⟨T12, X12, e12, st12⟩ := getF X10 hx hZ hown (host := "") (Or.inl (hw _ (List.mem_of_getElem? (i := 22) rfl))) Via.refl e10 P8 (g := (mkF m 49 #[.val (.ref a1), .val (.ref a2), .val (.ref a2)] [(.ref a1)])) rfl rfl (hb hby d4_49)
        refine own_st st12 ?_
        show own_Fin p e below _ (T12.setTop (mkF m 52 #[.val (.ref a1), .val (.ref a2), .val (.ref a2)] [(.int i9)]))
        refine own_st (fun t k => XS.aloadN X12.here hx rfl (hb hby d4_52) rfl rfl k) ?_
        show own_Fin p e below _ (T12.setTop (mkF m 53 #[.val (.ref a1), .val (.ref a2), .val (.ref a2)] [(.ref a2), (.int i9)]))
        obtain ⟨T13, X13, e13, st13⟩ := getF X12 hx hZ hown (host := "") (Or.inl (hw _ (List.mem_of_getElem? (i := 22) rfl))) Via.refl e12 P10 (g := (mkF m 53 #[.val (.ref a1), .val (.ref a2), .val (.ref a2)] [(.ref a2), (.int i9)])) rfl rfl (hb hby d4_53)
        refine own_st st13 ?_
        show own_Fin p e below _ (T13.setTop (mkF m 56 #[.val (.ref a1), .val (.ref a2), .val (.ref a2)] [(.int i10), (.int i9)]))
        by_cases qF14 : i9 = i10
        ·
          refine own_st (fun t k => XS.icmpNo X13.here hx rfl (hb hby d4_56) rfl (teq qF14).2 k) ?_
          show own_Fin p e below _ (T13.setTop (mkF m 59 #[.val (.ref a1), .val (.ref a2), .val (.ref a2)] []))
          refine own_st (fun t k => XS.iconst X13.here hx rfl (hb hby d4_59) k) ?_
          show own_Fin p e below _ (T13.setTop (mkF m 60 #[.val (.ref a1), .val (.ref a2), .val (.ref a2)] [(.int (1 : Int32))]))
          refine own_st (fun t k => XS.goto X13.here hx rfl (pc0 := 60) (pc' := 64) rfl (hb hby d4_60) (by decide) (by decide) k) ?_
          show own_Fin p e below _ (T13.setTop (mkF m 64 #[.val (.ref a1), .val (.ref a2), .val (.ref a2)] [(.int (1 : Int32))]))
          obtain ⟨fs, hr, hrun, hended, hW, hsame⟩ := X13.leave (v := some (.int (1 : Int32))) (fun h => by rw [Bd.returns] at h; cases h)
          exact ⟨_, _, retN X13 hx (t := .boolean) Bd.returns (by simp) (hb hby d4_64) hr, hrun, hended, _, _, rfl, ⟨(by simp [own_eq, qA5, qF8, qF11, qF14]), N0, e13⟩, ⟨_, rfl⟩, hW, hsame.mono (by decide) (by decide)⟩
        ·
          refine own_st (fun t k => XS.icmpYes X13.here hx rfl (pc0 := 56) (pc' := 63) rfl (hb hby d4_56) rfl (feq qF14).2 (by decide) (by decide) k) ?_
          show own_Fin p e below _ (T13.setTop (mkF m 63 #[.val (.ref a1), .val (.ref a2), .val (.ref a2)] []))
          refine own_st (fun t k => XS.iconst X13.here hx rfl (hb hby d4_63) k) ?_
          show own_Fin p e below _ (T13.setTop (mkF m 64 #[.val (.ref a1), .val (.ref a2), .val (.ref a2)] [(.int (0 : Int32))]))
          obtain ⟨fs, hr, hrun, hended, hW, hsame⟩ := X13.leave (v := some (.int (0 : Int32))) (fun h => by rw [Bd.returns] at h; cases h)
          exact ⟨_, _, retN X13 hx (t := .boolean) Bd.returns (by simp) (hb hby d4_64) hr, hrun, hended, _, _, rfl, ⟨(by simp [own_eq, qA5, qF8, qF11, qF14]), N0, e13⟩, ⟨_, rfl⟩, hW, hsame.mono (by decide) (by decide)⟩
      ·
        refine own_st (fun t k => XS.ifYes X10.here hx rfl (pc0 := 45) (pc' := 63) rfl (hb hby d4_45) rfl ((if0 _ _).trans (feq (mt (lw_eq _ _).1 qF11)).2) (by decide) (by decide) k) ?_
        show own_Fin p e below _ (T10.setTop (mkF m 63 #[.val (.ref a1), .val (.ref a2), .val (.ref a2)] []))
        refine own_st (fun t k => XS.iconst X10.here hx rfl (hb hby d4_63) k) ?_
        show own_Fin p e below _ (T10.setTop (mkF m 64 #[.val (.ref a1), .val (.ref a2), .val (.ref a2)] [(.int (0 : Int32))]))
        obtain ⟨fs, hr, hrun, hended, hW, hsame⟩ := X10.leave (v := some (.int (0 : Int32))) (fun h => by rw [Bd.returns] at h; cases h)
        exact ⟨_, _, retN X10 hx (t := .boolean) Bd.returns (by simp) (hb hby d4_64) hr, hrun, hended, _, _, rfl, ⟨(by simp [own_eq, qA5, qF8, qF11]), N0, e10⟩, ⟨_, rfl⟩, hW, hsame.mono (by decide) (by decide)⟩
    ·
      refine own_st (fun t k => XS.icmpYes X7.here hx rfl (pc0 := 33) (pc' := 63) rfl (hb hby d4_33) rfl (feq qF8).2 (by decide) (by decide) k) ?_
      show own_Fin p e below _ (T7.setTop (mkF m 63 #[.val (.ref a1), .val (.ref a2), .val (.ref a2)] []))
      refine own_st (fun t k => XS.iconst X7.here hx rfl (hb hby d4_63) k) ?_
      show own_Fin p e below _ (T7.setTop (mkF m 64 #[.val (.ref a1), .val (.ref a2), .val (.ref a2)] [(.int (0 : Int32))]))
      obtain ⟨fs, hr, hrun, hended, hW, hsame⟩ := X7.leave (v := some (.int (0 : Int32))) (fun h => by rw [Bd.returns] at h; cases h)
      exact ⟨_, _, retN X7 hx (t := .boolean) Bd.returns (by simp) (hb hby d4_64) hr, hrun, hended, _, _, rfl, ⟨(by simp [own_eq, qA5, qF8]), N0, e7⟩, ⟨_, rfl⟩, hW, hsame.mono (by decide) (by decide)⟩
  ·
    refine own_st (fun t k => Jvm.RoadKit.acmp (g := (mkF m 22 #[.val (.ref a1), .val (.ref a2), .val (.ref a2)] [(.ref a4), (.ref a3)])) X4 hx rfl rfl rfl (pc0 := 22) (pc' := 63) (same := false) rfl (hb hby d4_22) rfl (decide_eq_false fun q => qA5 (Value.ref.inj q)) (by decide) (by decide) k) ?_
    show own_Fin p e below _ (T4.setTop (mkF m 63 #[.val (.ref a1), .val (.ref a2), .val (.ref a2)] []))
    refine own_st (fun t k => XS.iconst X4.here hx rfl (hb hby d4_63) k) ?_
    show own_Fin p e below _ (T4.setTop (mkF m 64 #[.val (.ref a1), .val (.ref a2), .val (.ref a2)] [(.int (0 : Int32))]))
    obtain ⟨fs, hr, hrun, hended, hW, hsame⟩ := X4.leave (v := some (.int (0 : Int32))) (fun h => by rw [Bd.returns] at h; cases h)
    exact ⟨_, _, retN X4 hx (t := .boolean) Bd.returns (by simp) (hb hby d4_64) hr, hrun, hended, _, _, rfl, ⟨(by simp [own_eq, qA5]), N0, e4⟩, ⟨_, rfl⟩, hW, hsame.mono (by decide) (by decide)⟩
set_option maxRecDepth 65536 in
set_option maxHeartbeats 40000000 in
theorem rm4_7 (l : Launch) (Z : State) (a0 : Array Value) (hw : ∀ d ∈ tables_1, d.before a0 Z = true) (ws : List Jvm.Cond) (a1 : Addr) (a2 : Addr) (i3 : Int32) (j4 : Int64) (i5 : Int32) (h0 : Heap) (n0 : Nat) (Z0 : n0 ≤ Array.size h0) (P0 : Exa Z h0 a1 "com/example/deioces/deioces/Message") (P1 : Fld Z h0 a1 "com/example/deioces/deioces/Message" "kind" "Lcom/example/deioces/deioces/Message$Kind;" (.ref a2)) (P2 : Fld Z h0 a1 "com/example/deioces/deioces/Message" "sender" "I" (.int i3)) (P3 : Fld Z h0 a1 "com/example/deioces/deioces/Message" "stamp" "J" (.long j4)) (P4 : i5 = 0 ∨ i5 = 1) (P5 : Fld Z h0 a1 "com/example/deioces/deioces/Message" "supportive" "Z" (.int i5)) :
    MetFree l (⟨"com/example/deioces/deioces/Message", "equals", "(Ljava/lang/Object;)Z"⟩ : MethodName) (head1 (Jvm.Cond.code (⟨"com/example/deioces/deioces/Message", "equals", "(Ljava/lang/Object;)Z"⟩ : MethodName) prog_30_method_10_code 3 (some .boolean) :: ws) ({ frames := 0, cells := 0, slots := 0, locals := 0 } : Room)) (fun a U => a = #[(.ref a1), (.ref a1)] ∧ Z.Warmed39 U.vm ∧ U.heap = h0) (fun _ _ _ _ _ => True) (fun _ U o U' => ∃ v L, o = .returned v ∧ own_Q h0 n0 (some (.int (1 : Int32))) v U'.heap L ∧ FrameEnd U o U' L ({ frames := 0, cells := 0, slots := 0, locals := 0 } : Room).cells ({ frames := 0, cells := 0, slots := 0, locals := 0 } : Room).slots) := by
  refine MetFree.of_bodySF (plainFor_of_name pn_com_example_deioces_deioces_Message) hisR ?_
  intro p e s m args below meth c s₁ Bd hml0 hP hK
  obtain ⟨rfl, hZ, hh⟩ := hP
  have hx := Bd.exec
  have hby := Bd.bytes
  have hml : c.maxLocals = 3 := hml0
  have hown : s.vm.findClass "com/example/deioces/deioces/Message" = some m.cls := findClass_of_methodNamed Bd.named
  have hnm := (name_of_methodNamed Bd.named Bd.method).1
  have X0 : Stand p l e ({ frames := 0, cells := 0, slots := 0, locals := 0 } : Room) s m #[(.ref a1), (.ref a1)] below meth c s₁ [] 0 0 := Stand.of_body Bd
  have e0 : s₁.heap = h0 := by rw [← hh, Bd.state]; rfl
  have N0 := Fr.nil n0
  refine (?_ : own_Fin p e below _ _)
  refine own_st (fun t k => castTop (ef_4_RR m a1 a1) k) ?_
  show own_Fin p e below _ (s₁.setTop (mkF m 0 #[.val (.ref a1), .val (.ref a1), .unset] []))
  refine own_st (fun t k => XS.aloadN X0.here hx rfl (hb hby d4_0) rfl rfl k) ?_
  show own_Fin p e below _ (s₁.setTop (mkF m 1 #[.val (.ref a1), .val (.ref a1), .unset] [(.ref a1)]))
  obtain ⟨T1, X1, e1, st1⟩ := instY X0 hx hZ hown (hw _ (List.mem_of_getElem? (i := 29) rfl)) e0 (Ins.self P0) (g := (mkF m 1 #[.val (.ref a1), .val (.ref a1), .unset] [(.ref a1)])) rfl rfl (hb hby d4_1)
  refine own_st st1 ?_
  show own_Fin p e below _ (T1.setTop (mkF m 4 #[.val (.ref a1), .val (.ref a1), .unset] [(.int (1 : Int32))]))
  refine own_st (fun t k => XS.ifYes X1.here hx rfl (pc0 := 4) (pc' := 9) rfl (hb hby d4_4) rfl (by decide) (by decide) (by decide) k) ?_
  show own_Fin p e below _ (T1.setTop (mkF m 9 #[.val (.ref a1), .val (.ref a1), .unset] []))
  refine own_st (fun t k => XS.aloadN X1.here hx rfl (hb hby d4_9) rfl rfl k) ?_
  show own_Fin p e below _ (T1.setTop (mkF m 10 #[.val (.ref a1), .val (.ref a1), .unset] [(.ref a1)]))
  obtain ⟨T2, X2, e2, st2⟩ := castY X1 hx hZ hown (hw _ (List.mem_of_getElem? (i := 29) rfl)) e1 (Ins.self P0) (g := (mkF m 10 #[.val (.ref a1), .val (.ref a1), .unset] [(.ref a1)])) rfl rfl (hb hby d4_10)
  refine own_st st2 ?_
  show own_Fin p e below _ (T2.setTop (mkF m 13 #[.val (.ref a1), .val (.ref a1), .unset] [(.ref a1)]))
  refine own_st (fun t k => XS.astoreN X2.here hx rfl (hb hby d4_13) rfl rfl (l' := #[.val (.ref a1), .val (.ref a1), .val (.ref a1)]) rfl k) ?_
  show own_Fin p e below _ (T2.setTop (mkF m 14 #[.val (.ref a1), .val (.ref a1), .val (.ref a1)] []))
  refine own_st (fun t k => XS.aloadN X2.here hx rfl (hb hby d4_14) rfl rfl k) ?_
  show own_Fin p e below _ (T2.setTop (mkF m 15 #[.val (.ref a1), .val (.ref a1), .val (.ref a1)] [(.ref a1)]))
  obtain ⟨T3, X3, e3, st3⟩ := getF X2 hx hZ hown (host := "") (Or.inl (hw _ (List.mem_of_getElem? (i := 16) rfl))) Via.refl e2 P1 (g := (mkF m 15 #[.val (.ref a1), .val (.ref a1), .val (.ref a1)] [(.ref a1)])) rfl rfl (hb hby d4_15)
  refine own_st st3 ?_
  show own_Fin p e below _ (T3.setTop (mkF m 18 #[.val (.ref a1), .val (.ref a1), .val (.ref a1)] [(.ref a2)]))
  refine own_st (fun t k => XS.aloadN X3.here hx rfl (hb hby d4_18) rfl rfl k) ?_
  show own_Fin p e below _ (T3.setTop (mkF m 19 #[.val (.ref a1), .val (.ref a1), .val (.ref a1)] [(.ref a1), (.ref a2)]))
  obtain ⟨T4, X4, e4, st4⟩ := getF X3 hx hZ hown (host := "") (Or.inl (hw _ (List.mem_of_getElem? (i := 16) rfl))) Via.refl e3 P1 (g := (mkF m 19 #[.val (.ref a1), .val (.ref a1), .val (.ref a1)] [(.ref a1), (.ref a2)])) rfl rfl (hb hby d4_19)
  refine own_st st4 ?_
  show own_Fin p e below _ (T4.setTop (mkF m 22 #[.val (.ref a1), .val (.ref a1), .val (.ref a1)] [(.ref a2), (.ref a2)]))
  refine own_st (fun t k => Jvm.RoadKit.acmp (g := (mkF m 22 #[.val (.ref a1), .val (.ref a1), .val (.ref a1)] [(.ref a2), (.ref a2)])) X4 hx rfl rfl rfl (pc0 := 22) (pc' := 25) (same := true) rfl (hb hby d4_22) rfl (decide_eq_true rfl) (by decide) (by decide) k) ?_
  show own_Fin p e below _ (T4.setTop (mkF m 25 #[.val (.ref a1), .val (.ref a1), .val (.ref a1)] []))
  refine own_st (fun t k => XS.aloadN X4.here hx rfl (hb hby d4_25) rfl rfl k) ?_
  show own_Fin p e below _ (T4.setTop (mkF m 26 #[.val (.ref a1), .val (.ref a1), .val (.ref a1)] [(.ref a1)]))
  obtain ⟨T5, X5, e5, st5⟩ := getF X4 hx hZ hown (host := "") (Or.inl (hw _ (List.mem_of_getElem? (i := 18) rfl))) Via.refl e4 P2 (g := (mkF m 26 #[.val (.ref a1), .val (.ref a1), .val (.ref a1)] [(.ref a1)])) rfl rfl (hb hby d4_26)
  refine own_st st5 ?_
  show own_Fin p e below _ (T5.setTop (mkF m 29 #[.val (.ref a1), .val (.ref a1), .val (.ref a1)] [(.int i3)]))
  refine own_st (fun t k => XS.aloadN X5.here hx rfl (hb hby d4_29) rfl rfl k) ?_
  show own_Fin p e below _ (T5.setTop (mkF m 30 #[.val (.ref a1), .val (.ref a1), .val (.ref a1)] [(.ref a1), (.int i3)]))
  obtain ⟨T6, X6, e6, st6⟩ := getF X5 hx hZ hown (host := "") (Or.inl (hw _ (List.mem_of_getElem? (i := 18) rfl))) Via.refl e5 P2 (g := (mkF m 30 #[.val (.ref a1), .val (.ref a1), .val (.ref a1)] [(.ref a1), (.int i3)])) rfl rfl (hb hby d4_30)
  refine own_st st6 ?_
  show own_Fin p e below _ (T6.setTop (mkF m 33 #[.val (.ref a1), .val (.ref a1), .val (.ref a1)] [(.int i3), (.int i3)]))
  refine own_st (fun t k => XS.icmpNo X6.here hx rfl (hb hby d4_33) rfl (teq rfl).2 k) ?_
  show own_Fin p e below _ (T6.setTop (mkF m 36 #[.val (.ref a1), .val (.ref a1), .val (.ref a1)] []))
  refine own_st (fun t k => XS.aloadN X6.here hx rfl (hb hby d4_36) rfl rfl k) ?_
  show own_Fin p e below _ (T6.setTop (mkF m 37 #[.val (.ref a1), .val (.ref a1), .val (.ref a1)] [(.ref a1)]))
  obtain ⟨T7, X7, e7, st7⟩ := getF X6 hx hZ hown (host := "") (Or.inl (hw _ (List.mem_of_getElem? (i := 20) rfl))) Via.refl e6 P3 (g := (mkF m 37 #[.val (.ref a1), .val (.ref a1), .val (.ref a1)] [(.ref a1)])) rfl rfl (hb hby d4_37)
  refine own_st st7 ?_
  show own_Fin p e below _ (T7.setTop (mkF m 40 #[.val (.ref a1), .val (.ref a1), .val (.ref a1)] [(.long j4)]))
  refine own_st (fun t k => XS.aloadN X7.here hx rfl (hb hby d4_40) rfl rfl k) ?_
  show own_Fin p e below _ (T7.setTop (mkF m 41 #[.val (.ref a1), .val (.ref a1), .val (.ref a1)] [(.ref a1), (.long j4)]))
  obtain ⟨T8, X8, e8, st8⟩ := getF X7 hx hZ hown (host := "") (Or.inl (hw _ (List.mem_of_getElem? (i := 20) rfl))) Via.refl e7 P3 (g := (mkF m 41 #[.val (.ref a1), .val (.ref a1), .val (.ref a1)] [(.ref a1), (.long j4)])) rfl rfl (hb hby d4_41)
  refine own_st st8 ?_
  show own_Fin p e below _ (T8.setTop (mkF m 44 #[.val (.ref a1), .val (.ref a1), .val (.ref a1)] [(.long j4), (.long j4)]))
  refine own_st (fun t k => XS.lcmp X8.here hx rfl (hb hby d4_44) rfl k) ?_
  show own_Fin p e below _ (T8.setTop (mkF m 45 #[.val (.ref a1), .val (.ref a1), .val (.ref a1)] [(.int (lcmpW j4 j4))]))
  refine own_st (fun t k => XS.ifNo X8.here hx rfl (hb hby d4_45) rfl ((if0 _ _).trans (teq ((lw_eq j4 j4).2 rfl)).2) k) ?_
  show own_Fin p e below _ (T8.setTop (mkF m 48 #[.val (.ref a1), .val (.ref a1), .val (.ref a1)] []))
  refine own_st (fun t k => XS.aloadN X8.here hx rfl (hb hby d4_48) rfl rfl k) ?_
  show own_Fin p e below _ (T8.setTop (mkF m 49 #[.val (.ref a1), .val (.ref a1), .val (.ref a1)] [(.ref a1)]))
  obtain ⟨T9, X9, e9, st9⟩ := getF X8 hx hZ hown (host := "") (Or.inl (hw _ (List.mem_of_getElem? (i := 22) rfl))) Via.refl e8 P5 (g := (mkF m 49 #[.val (.ref a1), .val (.ref a1), .val (.ref a1)] [(.ref a1)])) rfl rfl (hb hby d4_49)
  refine own_st st9 ?_
  show own_Fin p e below _ (T9.setTop (mkF m 52 #[.val (.ref a1), .val (.ref a1), .val (.ref a1)] [(.int i5)]))
  refine own_st (fun t k => XS.aloadN X9.here hx rfl (hb hby d4_52) rfl rfl k) ?_
  show own_Fin p e below _ (T9.setTop (mkF m 53 #[.val (.ref a1), .val (.ref a1), .val (.ref a1)] [(.ref a1), (.int i5)]))
  obtain ⟨T10, X10, e10, st10⟩ := getF X9 hx hZ hown (host := "") (Or.inl (hw _ (List.mem_of_getElem? (i := 22) rfl))) Via.refl e9 P5 (g := (mkF m 53 #[.val (.ref a1), .val (.ref a1), .val (.ref a1)] [(.ref a1), (.int i5)])) rfl rfl (hb hby d4_53)
  refine own_st st10 ?_
  show own_Fin p e below _ (T10.setTop (mkF m 56 #[.val (.ref a1), .val (.ref a1), .val (.ref a1)] [(.int i5), (.int i5)]))
  refine own_st (fun t k => XS.icmpNo X10.here hx rfl (hb hby d4_56) rfl (teq rfl).2 k) ?_
  show own_Fin p e below _ (T10.setTop (mkF m 59 #[.val (.ref a1), .val (.ref a1), .val (.ref a1)] []))
  refine own_st (fun t k => XS.iconst X10.here hx rfl (hb hby d4_59) k) ?_
  show own_Fin p e below _ (T10.setTop (mkF m 60 #[.val (.ref a1), .val (.ref a1), .val (.ref a1)] [(.int (1 : Int32))]))
  refine own_st (fun t k => XS.goto X10.here hx rfl (pc0 := 60) (pc' := 64) rfl (hb hby d4_60) (by decide) (by decide) k) ?_
  show own_Fin p e below _ (T10.setTop (mkF m 64 #[.val (.ref a1), .val (.ref a1), .val (.ref a1)] [(.int (1 : Int32))]))
  obtain ⟨fs, hr, hrun, hended, hW, hsame⟩ := X10.leave (v := some (.int (1 : Int32))) (fun h => by rw [Bd.returns] at h; cases h)
  exact ⟨_, _, retN X10 hx (t := .boolean) Bd.returns (by simp) (hb hby d4_64) hr, hrun, hended, _, _, rfl, ⟨rfl, N0, e10⟩, ⟨_, rfl⟩, hW, hsame.mono (by decide) (by decide)⟩
set_option maxRecDepth 65536 in
set_option maxHeartbeats 40000000 in
theorem rm4_8 (l : Launch) (Z : State) (a0 : Array Value) (hw : ∀ d ∈ tables_1, d.before a0 Z = true) (ws : List Jvm.Cond) (a1 : Addr) (a2 : Addr) (a3 : Addr) (a4 : Addr) (i5 : Int32) (i6 : Int32) (j7 : Int64) (j8 : Int64) (i9 : Int32) (i10 : Int32) (h0 : Heap) (n0 : Nat) (Z0 : n0 ≤ Array.size h0) (P0 : Exa Z h0 a2 "com/example/deioces/deioces/Message") (P1 : Fld Z h0 a1 "com/example/deioces/deioces/Message" "kind" "Lcom/example/deioces/deioces/Message$Kind;" (.ref a3)) (P2 : Fld Z h0 a2 "com/example/deioces/deioces/Message" "kind" "Lcom/example/deioces/deioces/Message$Kind;" (.ref a4)) (P3 : Fld Z h0 a1 "com/example/deioces/deioces/Message" "sender" "I" (.int i5)) (P4 : Fld Z h0 a2 "com/example/deioces/deioces/Message" "sender" "I" (.int i6)) (P5 : Fld Z h0 a1 "com/example/deioces/deioces/Message" "stamp" "J" (.long j7)) (P6 : Fld Z h0 a2 "com/example/deioces/deioces/Message" "stamp" "J" (.long j8)) (P7 : i9 = 0 ∨ i9 = 1) (P8 : Fld Z h0 a1 "com/example/deioces/deioces/Message" "supportive" "Z" (.int i9)) (P9 : i10 = 0 ∨ i10 = 1) (P10 : Fld Z h0 a2 "com/example/deioces/deioces/Message" "supportive" "Z" (.int i10)) :
    MetFree l (⟨"com/example/deioces/deioces/Message", "equals", "(Ljava/lang/Object;)Z"⟩ : MethodName) (head1 (Jvm.Cond.code (⟨"com/example/deioces/deioces/Message", "equals", "(Ljava/lang/Object;)Z"⟩ : MethodName) prog_30_method_10_code 3 (some .boolean) :: ws) ({ frames := 0, cells := 0, slots := 0, locals := 0 } : Room)) (fun a U => a = #[(.ref a1), (.ref a2)] ∧ Z.Warmed39 U.vm ∧ U.heap = h0) (fun _ _ _ _ _ => True) (fun _ U o U' => ∃ v L, o = .returned v ∧ own_Q h0 n0 (some (.int (own_eq a3 a4 i5 i6 j7 j8 i9 i10))) v U'.heap L ∧ FrameEnd U o U' L ({ frames := 0, cells := 0, slots := 0, locals := 0 } : Room).cells ({ frames := 0, cells := 0, slots := 0, locals := 0 } : Room).slots) := by
  refine MetFree.of_bodySF (plainFor_of_name pn_com_example_deioces_deioces_Message) hisR ?_
  intro p e s m args below meth c s₁ Bd hml0 hP hK
  obtain ⟨rfl, hZ, hh⟩ := hP
  have hx := Bd.exec
  have hby := Bd.bytes
  have hml : c.maxLocals = 3 := hml0
  have hown : s.vm.findClass "com/example/deioces/deioces/Message" = some m.cls := findClass_of_methodNamed Bd.named
  have hnm := (name_of_methodNamed Bd.named Bd.method).1
  have X0 : Stand p l e ({ frames := 0, cells := 0, slots := 0, locals := 0 } : Room) s m #[(.ref a1), (.ref a2)] below meth c s₁ [] 0 0 := Stand.of_body Bd
  have e0 : s₁.heap = h0 := by rw [← hh, Bd.state]; rfl
  have N0 := Fr.nil n0
  refine (?_ : own_Fin p e below _ _)
  refine own_st (fun t k => castTop (ef_4_RR m a1 a2) k) ?_
  show own_Fin p e below _ (s₁.setTop (mkF m 0 #[.val (.ref a1), .val (.ref a2), .unset] []))
  refine own_st (fun t k => XS.aloadN X0.here hx rfl (hb hby d4_0) rfl rfl k) ?_
  show own_Fin p e below _ (s₁.setTop (mkF m 1 #[.val (.ref a1), .val (.ref a2), .unset] [(.ref a2)]))
  obtain ⟨T1, X1, e1, st1⟩ := instY X0 hx hZ hown (hw _ (List.mem_of_getElem? (i := 29) rfl)) e0 (Ins.self P0) (g := (mkF m 1 #[.val (.ref a1), .val (.ref a2), .unset] [(.ref a2)])) rfl rfl (hb hby d4_1)
  refine own_st st1 ?_
  show own_Fin p e below _ (T1.setTop (mkF m 4 #[.val (.ref a1), .val (.ref a2), .unset] [(.int (1 : Int32))]))
  refine own_st (fun t k => XS.ifYes X1.here hx rfl (pc0 := 4) (pc' := 9) rfl (hb hby d4_4) rfl (by decide) (by decide) (by decide) k) ?_
  show own_Fin p e below _ (T1.setTop (mkF m 9 #[.val (.ref a1), .val (.ref a2), .unset] []))
  refine own_st (fun t k => XS.aloadN X1.here hx rfl (hb hby d4_9) rfl rfl k) ?_
  show own_Fin p e below _ (T1.setTop (mkF m 10 #[.val (.ref a1), .val (.ref a2), .unset] [(.ref a2)]))
  obtain ⟨T2, X2, e2, st2⟩ := castY X1 hx hZ hown (hw _ (List.mem_of_getElem? (i := 29) rfl)) e1 (Ins.self P0) (g := (mkF m 10 #[.val (.ref a1), .val (.ref a2), .unset] [(.ref a2)])) rfl rfl (hb hby d4_10)
  refine own_st st2 ?_
  show own_Fin p e below _ (T2.setTop (mkF m 13 #[.val (.ref a1), .val (.ref a2), .unset] [(.ref a2)]))
  refine own_st (fun t k => XS.astoreN X2.here hx rfl (hb hby d4_13) rfl rfl (l' := #[.val (.ref a1), .val (.ref a2), .val (.ref a2)]) rfl k) ?_
  show own_Fin p e below _ (T2.setTop (mkF m 14 #[.val (.ref a1), .val (.ref a2), .val (.ref a2)] []))
  refine own_st (fun t k => XS.aloadN X2.here hx rfl (hb hby d4_14) rfl rfl k) ?_
  show own_Fin p e below _ (T2.setTop (mkF m 15 #[.val (.ref a1), .val (.ref a2), .val (.ref a2)] [(.ref a1)]))
  obtain ⟨T3, X3, e3, st3⟩ := getF X2 hx hZ hown (host := "") (Or.inl (hw _ (List.mem_of_getElem? (i := 16) rfl))) Via.refl e2 P1 (g := (mkF m 15 #[.val (.ref a1), .val (.ref a2), .val (.ref a2)] [(.ref a1)])) rfl rfl (hb hby d4_15)
  refine own_st st3 ?_
  show own_Fin p e below _ (T3.setTop (mkF m 18 #[.val (.ref a1), .val (.ref a2), .val (.ref a2)] [(.ref a3)]))
  refine own_st (fun t k => XS.aloadN X3.here hx rfl (hb hby d4_18) rfl rfl k) ?_
  show own_Fin p e below _ (T3.setTop (mkF m 19 #[.val (.ref a1), .val (.ref a2), .val (.ref a2)] [(.ref a2), (.ref a3)]))
  obtain ⟨T4, X4, e4, st4⟩ := getF X3 hx hZ hown (host := "") (Or.inl (hw _ (List.mem_of_getElem? (i := 16) rfl))) Via.refl e3 P2 (g := (mkF m 19 #[.val (.ref a1), .val (.ref a2), .val (.ref a2)] [(.ref a2), (.ref a3)])) rfl rfl (hb hby d4_19)
  refine own_st st4 ?_
  show own_Fin p e below _ (T4.setTop (mkF m 22 #[.val (.ref a1), .val (.ref a2), .val (.ref a2)] [(.ref a4), (.ref a3)]))
  by_cases qA5 : a3 = a4
  ·
    refine own_st (fun t k => Jvm.RoadKit.acmp (g := (mkF m 22 #[.val (.ref a1), .val (.ref a2), .val (.ref a2)] [(.ref a4), (.ref a3)])) X4 hx rfl rfl rfl (pc0 := 22) (pc' := 25) (same := true) rfl (hb hby d4_22) rfl (decide_eq_true (congrArg Value.ref qA5)) (by decide) (by decide) k) ?_
    show own_Fin p e below _ (T4.setTop (mkF m 25 #[.val (.ref a1), .val (.ref a2), .val (.ref a2)] []))
    refine own_st (fun t k => XS.aloadN X4.here hx rfl (hb hby d4_25) rfl rfl k) ?_
    show own_Fin p e below _ (T4.setTop (mkF m 26 #[.val (.ref a1), .val (.ref a2), .val (.ref a2)] [(.ref a1)]))
    obtain ⟨T6, X6, e6, st6⟩ := getF X4 hx hZ hown (host := "") (Or.inl (hw _ (List.mem_of_getElem? (i := 18) rfl))) Via.refl e4 P3 (g := (mkF m 26 #[.val (.ref a1), .val (.ref a2), .val (.ref a2)] [(.ref a1)])) rfl rfl (hb hby d4_26)
    refine own_st st6 ?_
    show own_Fin p e below _ (T6.setTop (mkF m 29 #[.val (.ref a1), .val (.ref a2), .val (.ref a2)] [(.int i5)]))
    refine own_st (fun t k => XS.aloadN X6.here hx rfl (hb hby d4_29) rfl rfl k) ?_
    show own_Fin p e below _ (T6.setTop (mkF m 30 #[.val (.ref a1), .val (.ref a2), .val (.ref a2)] [(.ref a2), (.int i5)]))
    obtain ⟨T7, X7, e7, st7⟩ := getF X6 hx hZ hown (host := "") (Or.inl (hw _ (List.mem_of_getElem? (i := 18) rfl))) Via.refl e6 P4 (g := (mkF m 30 #[.val (.ref a1), .val (.ref a2), .val (.ref a2)] [(.ref a2), (.int i5)])) rfl rfl (hb hby d4_30)
    refine own_st st7 ?_
    show own_Fin p e below _ (T7.setTop (mkF m 33 #[.val (.ref a1), .val (.ref a2), .val (.ref a2)] [(.int i6), (.int i5)]))
    by_cases qF8 : i5 = i6
    ·
      refine own_st (fun t k => XS.icmpNo X7.here hx rfl (hb hby d4_33) rfl (teq qF8).2 k) ?_
      show own_Fin p e below _ (T7.setTop (mkF m 36 #[.val (.ref a1), .val (.ref a2), .val (.ref a2)] []))
      refine own_st (fun t k => XS.aloadN X7.here hx rfl (hb hby d4_36) rfl rfl k) ?_
      show own_Fin p e below _ (T7.setTop (mkF m 37 #[.val (.ref a1), .val (.ref a2), .val (.ref a2)] [(.ref a1)]))
      obtain ⟨T9, X9, e9, st9⟩ := getF X7 hx hZ hown (host := "") (Or.inl (hw _ (List.mem_of_getElem? (i := 20) rfl))) Via.refl e7 P5 (g := (mkF m 37 #[.val (.ref a1), .val (.ref a2), .val (.ref a2)] [(.ref a1)])) rfl rfl (hb hby d4_37)
      refine own_st st9 ?_
      show own_Fin p e below _ (T9.setTop (mkF m 40 #[.val (.ref a1), .val (.ref a2), .val (.ref a2)] [(.long j7)]))
      refine own_st (fun t k => XS.aloadN X9.here hx rfl (hb hby d4_40) rfl rfl k) ?_
      show own_Fin p e below _ (T9.setTop (mkF m 41 #[.val (.ref a1), .val (.ref a2), .val (.ref a2)] [(.ref a2), (.long j7)]))
      obtain ⟨T10, X10, e10, st10⟩ := getF X9 hx hZ hown (host := "") (Or.inl (hw _ (List.mem_of_getElem? (i := 20) rfl))) Via.refl e9 P6 (g := (mkF m 41 #[.val (.ref a1), .val (.ref a2), .val (.ref a2)] [(.ref a2), (.long j7)])) rfl rfl (hb hby d4_41)
      refine own_st st10 ?_
      show own_Fin p e below _ (T10.setTop (mkF m 44 #[.val (.ref a1), .val (.ref a2), .val (.ref a2)] [(.long j8), (.long j7)]))
      refine own_st (fun t k => XS.lcmp X10.here hx rfl (hb hby d4_44) rfl k) ?_
      show own_Fin p e below _ (T10.setTop (mkF m 45 #[.val (.ref a1), .val (.ref a2), .val (.ref a2)] [(.int (lcmpW j7 j8))]))
      by_cases qF11 : j7 = j8
      ·
        refine own_st (fun t k => XS.ifNo X10.here hx rfl (hb hby d4_45) rfl ((if0 _ _).trans (teq (Iff.mpr (lw_eq _ _) qF11)).2) k) ?_
        show own_Fin p e below _ (T10.setTop (mkF m 48 #[.val (.ref a1), .val (.ref a2), .val (.ref a2)] []))
        refine own_st (fun t k => XS.aloadN X10.here hx rfl (hb hby d4_48) rfl rfl k) ?_
        show own_Fin p e below _ (T10.setTop (mkF m 49 #[.val (.ref a1), .val (.ref a2), .val (.ref a2)] [(.ref a1)]))
        obtain ⟨T12, X12, e12, st12⟩ := getF X10 hx hZ hown (host := "") (Or.inl (hw _ (List.mem_of_getElem? (i := 22) rfl))) Via.refl e10 P8 (g := (mkF m 49 #[.val (.ref a1), .val (.ref a2), .val (.ref a2)] [(.ref a1)])) rfl rfl (hb hby d4_49)
        refine own_st st12 ?_
        show own_Fin p e below _ (T12.setTop (mkF m 52 #[.val (.ref a1), .val (.ref a2), .val (.ref a2)] [(.int i9)]))
        refine own_st (fun t k => XS.aloadN X12.here hx rfl (hb hby d4_52) rfl rfl k) ?_
        show own_Fin p e below _ (T12.setTop (mkF m 53 #[.val (.ref a1), .val (.ref a2), .val (.ref a2)] [(.ref a2), (.int i9)]))
        obtain ⟨T13, X13, e13, st13⟩ := getF X12 hx hZ hown (host := "") (Or.inl (hw _ (List.mem_of_getElem? (i := 22) rfl))) Via.refl e12 P10 (g := (mkF m 53 #[.val (.ref a1), .val (.ref a2), .val (.ref a2)] [(.ref a2), (.int i9)])) rfl rfl (hb hby d4_53)
        refine own_st st13 ?_
        show own_Fin p e below _ (T13.setTop (mkF m 56 #[.val (.ref a1), .val (.ref a2), .val (.ref a2)] [(.int i10), (.int i9)]))
        by_cases qF14 : i9 = i10
        ·
          refine own_st (fun t k => XS.icmpNo X13.here hx rfl (hb hby d4_56) rfl (teq qF14).2 k) ?_
          show own_Fin p e below _ (T13.setTop (mkF m 59 #[.val (.ref a1), .val (.ref a2), .val (.ref a2)] []))
          refine own_st (fun t k => XS.iconst X13.here hx rfl (hb hby d4_59) k) ?_
          show own_Fin p e below _ (T13.setTop (mkF m 60 #[.val (.ref a1), .val (.ref a2), .val (.ref a2)] [(.int (1 : Int32))]))
          refine own_st (fun t k => XS.goto X13.here hx rfl (pc0 := 60) (pc' := 64) rfl (hb hby d4_60) (by decide) (by decide) k) ?_
          show own_Fin p e below _ (T13.setTop (mkF m 64 #[.val (.ref a1), .val (.ref a2), .val (.ref a2)] [(.int (1 : Int32))]))
          obtain ⟨fs, hr, hrun, hended, hW, hsame⟩ := X13.leave (v := some (.int (1 : Int32))) (fun h => by rw [Bd.returns] at h; cases h)
          exact ⟨_, _, retN X13 hx (t := .boolean) Bd.returns (by simp) (hb hby d4_64) hr, hrun, hended, _, _, rfl, ⟨(by simp [own_eq, qA5, qF8, qF11, qF14]), N0, e13⟩, ⟨_, rfl⟩, hW, hsame.mono (by decide) (by decide)⟩
        ·
          refine own_st (fun t k => XS.icmpYes X13.here hx rfl (pc0 := 56) (pc' := 63) rfl (hb hby d4_56) rfl (feq qF14).2 (by decide) (by decide) k) ?_
          show own_Fin p e below _ (T13.setTop (mkF m 63 #[.val (.ref a1), .val (.ref a2), .val (.ref a2)] []))
          refine own_st (fun t k => XS.iconst X13.here hx rfl (hb hby d4_63) k) ?_
          show own_Fin p e below _ (T13.setTop (mkF m 64 #[.val (.ref a1), .val (.ref a2), .val (.ref a2)] [(.int (0 : Int32))]))
          obtain ⟨fs, hr, hrun, hended, hW, hsame⟩ := X13.leave (v := some (.int (0 : Int32))) (fun h => by rw [Bd.returns] at h; cases h)
          exact ⟨_, _, retN X13 hx (t := .boolean) Bd.returns (by simp) (hb hby d4_64) hr, hrun, hended, _, _, rfl, ⟨(by simp [own_eq, qA5, qF8, qF11, qF14]), N0, e13⟩, ⟨_, rfl⟩, hW, hsame.mono (by decide) (by decide)⟩
      ·
        refine own_st (fun t k => XS.ifYes X10.here hx rfl (pc0 := 45) (pc' := 63) rfl (hb hby d4_45) rfl ((if0 _ _).trans (feq (mt (lw_eq _ _).1 qF11)).2) (by decide) (by decide) k) ?_
        show own_Fin p e below _ (T10.setTop (mkF m 63 #[.val (.ref a1), .val (.ref a2), .val (.ref a2)] []))
        refine own_st (fun t k => XS.iconst X10.here hx rfl (hb hby d4_63) k) ?_
        show own_Fin p e below _ (T10.setTop (mkF m 64 #[.val (.ref a1), .val (.ref a2), .val (.ref a2)] [(.int (0 : Int32))]))
        obtain ⟨fs, hr, hrun, hended, hW, hsame⟩ := X10.leave (v := some (.int (0 : Int32))) (fun h => by rw [Bd.returns] at h; cases h)
        exact ⟨_, _, retN X10 hx (t := .boolean) Bd.returns (by simp) (hb hby d4_64) hr, hrun, hended, _, _, rfl, ⟨(by simp [own_eq, qA5, qF8, qF11]), N0, e10⟩, ⟨_, rfl⟩, hW, hsame.mono (by decide) (by decide)⟩
    ·
      refine own_st (fun t k => XS.icmpYes X7.here hx rfl (pc0 := 33) (pc' := 63) rfl (hb hby d4_33) rfl (feq qF8).2 (by decide) (by decide) k) ?_
      show own_Fin p e below _ (T7.setTop (mkF m 63 #[.val (.ref a1), .val (.ref a2), .val (.ref a2)] []))
      refine own_st (fun t k => XS.iconst X7.here hx rfl (hb hby d4_63) k) ?_
      show own_Fin p e below _ (T7.setTop (mkF m 64 #[.val (.ref a1), .val (.ref a2), .val (.ref a2)] [(.int (0 : Int32))]))
      obtain ⟨fs, hr, hrun, hended, hW, hsame⟩ := X7.leave (v := some (.int (0 : Int32))) (fun h => by rw [Bd.returns] at h; cases h)
      exact ⟨_, _, retN X7 hx (t := .boolean) Bd.returns (by simp) (hb hby d4_64) hr, hrun, hended, _, _, rfl, ⟨(by simp [own_eq, qA5, qF8]), N0, e7⟩, ⟨_, rfl⟩, hW, hsame.mono (by decide) (by decide)⟩
  ·
    refine own_st (fun t k => Jvm.RoadKit.acmp (g := (mkF m 22 #[.val (.ref a1), .val (.ref a2), .val (.ref a2)] [(.ref a4), (.ref a3)])) X4 hx rfl rfl rfl (pc0 := 22) (pc' := 63) (same := false) rfl (hb hby d4_22) rfl (decide_eq_false fun q => qA5 (Value.ref.inj q)) (by decide) (by decide) k) ?_
    show own_Fin p e below _ (T4.setTop (mkF m 63 #[.val (.ref a1), .val (.ref a2), .val (.ref a2)] []))
    refine own_st (fun t k => XS.iconst X4.here hx rfl (hb hby d4_63) k) ?_
    show own_Fin p e below _ (T4.setTop (mkF m 64 #[.val (.ref a1), .val (.ref a2), .val (.ref a2)] [(.int (0 : Int32))]))
    obtain ⟨fs, hr, hrun, hended, hW, hsame⟩ := X4.leave (v := some (.int (0 : Int32))) (fun h => by rw [Bd.returns] at h; cases h)
    exact ⟨_, _, retN X4 hx (t := .boolean) Bd.returns (by simp) (hb hby d4_64) hr, hrun, hended, _, _, rfl, ⟨(by simp [own_eq, qA5]), N0, e4⟩, ⟨_, rfl⟩, hW, hsame.mono (by decide) (by decide)⟩
theorem d4_7 : decode prog_30_method_10_code 7 = .ok (.iconst 0, 1) := by decide +kernel
theorem d4_8 : decode prog_30_method_10_code 8 = .ok (.ireturn, 1) := by decide +kernel
theorem ef_4_RN (m : MethodId) (x0 : Addr) : entryFrame m #[(.ref x0), .null] 3 = mkF m 0 #[.val (.ref x0), .val .null, .unset] [] := by first | (simp [entryFrame, mkF, argsToLocals, Value.category]; done) | rfl
set_option maxRecDepth 65536 in
set_option maxHeartbeats 40000000 in
theorem rm4_9 (l : Launch) (Z : State) (a0 : Array Value) (hw : ∀ d ∈ tables_1, d.before a0 Z = true) (ws : List Jvm.Cond) (a1 : Addr) (h0 : Heap) (n0 : Nat) (Z0 : n0 ≤ Array.size h0) :
    MetFree l (⟨"com/example/deioces/deioces/Message", "equals", "(Ljava/lang/Object;)Z"⟩ : MethodName) (head1 (Jvm.Cond.code (⟨"com/example/deioces/deioces/Message", "equals", "(Ljava/lang/Object;)Z"⟩ : MethodName) prog_30_method_10_code 3 (some .boolean) :: ws) ({ frames := 0, cells := 0, slots := 0, locals := 0 } : Room)) (fun a U => a = #[(.ref a1), .null] ∧ Z.Warmed39 U.vm ∧ U.heap = h0) (fun _ _ _ _ _ => True) (fun _ U o U' => ∃ v L, o = .returned v ∧ own_Q h0 n0 (some (.int (0 : Int32))) v U'.heap L ∧ FrameEnd U o U' L ({ frames := 0, cells := 0, slots := 0, locals := 0 } : Room).cells ({ frames := 0, cells := 0, slots := 0, locals := 0 } : Room).slots) := by
  refine MetFree.of_bodySF (plainFor_of_name pn_com_example_deioces_deioces_Message) hisR ?_
  intro p e s m args below meth c s₁ Bd hml0 hP hK
  obtain ⟨rfl, hZ, hh⟩ := hP
  have hx := Bd.exec
  have hby := Bd.bytes
  have hml : c.maxLocals = 3 := hml0
  have hown : s.vm.findClass "com/example/deioces/deioces/Message" = some m.cls := findClass_of_methodNamed Bd.named
  have hnm := (name_of_methodNamed Bd.named Bd.method).1
  have X0 : Stand p l e ({ frames := 0, cells := 0, slots := 0, locals := 0 } : Room) s m #[(.ref a1), .null] below meth c s₁ [] 0 0 := Stand.of_body Bd
  have e0 : s₁.heap = h0 := by rw [← hh, Bd.state]; rfl
  have N0 := Fr.nil n0
  refine (?_ : own_Fin p e below _ _)
  refine own_st (fun t k => castTop (ef_4_RN m a1) k) ?_
  show own_Fin p e below _ (s₁.setTop (mkF m 0 #[.val (.ref a1), .val .null, .unset] []))
  refine own_st (fun t k => XS.aloadN X0.here hx rfl (hb hby d4_0) rfl rfl k) ?_
  show own_Fin p e below _ (s₁.setTop (mkF m 1 #[.val (.ref a1), .val .null, .unset] [.null]))
  refine own_st (fun t k => X0.instanceofNull hx (g := (mkF m 1 #[.val (.ref a1), .val .null, .unset] [.null])) rfl rfl (hb hby d4_1) t k) ?_
  show own_Fin p e below _ (s₁.setTop (mkF m 4 #[.val (.ref a1), .val .null, .unset] [(.int (0 : Int32))]))
  refine own_st (fun t k => XS.ifNo X0.here hx rfl (hb hby d4_4) rfl (by decide) k) ?_
  show own_Fin p e below _ (s₁.setTop (mkF m 7 #[.val (.ref a1), .val .null, .unset] []))
  refine own_st (fun t k => XS.iconst X0.here hx rfl (hb hby d4_7) k) ?_
  show own_Fin p e below _ (s₁.setTop (mkF m 8 #[.val (.ref a1), .val .null, .unset] [(.int (0 : Int32))]))
  obtain ⟨fs, hr, hrun, hended, hW, hsame⟩ := X0.leave (v := some (.int (0 : Int32))) (fun h => by rw [Bd.returns] at h; cases h)
  exact ⟨_, _, retN X0 hx (t := .boolean) Bd.returns (by simp) (hb hby d4_8) hr, hrun, hended, _, _, rfl, ⟨rfl, N0, e0⟩, ⟨_, rfl⟩, hW, hsame.mono (by decide) (by decide)⟩
set_option maxRecDepth 65536 in
set_option maxHeartbeats 40000000 in
theorem rm4_10 (l : Launch) (Z : State) (a0 : Array Value) (hw : ∀ d ∈ tables_1, d.before a0 Z = true) (ws : List Jvm.Cond) (a1 : Addr) (a2 : Addr) (i3 : Int32) (j4 : Int64) (i5 : Int32) (h0 : Heap) (n0 : Nat) (Z0 : n0 ≤ Array.size h0) (P0 : Exa Z h0 a1 "com/example/deioces/deioces/Message") (P1 : Fld Z h0 a1 "com/example/deioces/deioces/Message" "kind" "Lcom/example/deioces/deioces/Message$Kind;" (.ref a2)) (P2 : Fld Z h0 a1 "com/example/deioces/deioces/Message" "sender" "I" (.int i3)) (P3 : Fld Z h0 a1 "com/example/deioces/deioces/Message" "stamp" "J" (.long j4)) (P4 : i5 = 0 ∨ i5 = 1) (P5 : Fld Z h0 a1 "com/example/deioces/deioces/Message" "supportive" "Z" (.int i5)) :
    MetFree l (⟨"com/example/deioces/deioces/Message", "equals", "(Ljava/lang/Object;)Z"⟩ : MethodName) (head1 (Jvm.Cond.code (⟨"com/example/deioces/deioces/Message", "equals", "(Ljava/lang/Object;)Z"⟩ : MethodName) prog_30_method_10_code 3 (some .boolean) :: ws) ({ frames := 0, cells := 0, slots := 0, locals := 0 } : Room)) (fun a U => a = #[(.ref a1), (.ref a1)] ∧ Z.Warmed39 U.vm ∧ U.heap = h0) (fun _ _ _ _ _ => True) (fun _ U o U' => ∃ v L, o = .returned v ∧ own_Q h0 n0 (some (.int (1 : Int32))) v U'.heap L ∧ FrameEnd U o U' L ({ frames := 0, cells := 0, slots := 0, locals := 0 } : Room).cells ({ frames := 0, cells := 0, slots := 0, locals := 0 } : Room).slots) := by
  refine MetFree.of_bodySF (plainFor_of_name pn_com_example_deioces_deioces_Message) hisR ?_
  intro p e s m args below meth c s₁ Bd hml0 hP hK
  obtain ⟨rfl, hZ, hh⟩ := hP
  have hx := Bd.exec
  have hby := Bd.bytes
  have hml : c.maxLocals = 3 := hml0
  have hown : s.vm.findClass "com/example/deioces/deioces/Message" = some m.cls := findClass_of_methodNamed Bd.named
  have hnm := (name_of_methodNamed Bd.named Bd.method).1
  have X0 : Stand p l e ({ frames := 0, cells := 0, slots := 0, locals := 0 } : Room) s m #[(.ref a1), (.ref a1)] below meth c s₁ [] 0 0 := Stand.of_body Bd
  have e0 : s₁.heap = h0 := by rw [← hh, Bd.state]; rfl
  have N0 := Fr.nil n0
  refine (?_ : own_Fin p e below _ _)
  refine own_st (fun t k => castTop (ef_4_RR m a1 a1) k) ?_
  show own_Fin p e below _ (s₁.setTop (mkF m 0 #[.val (.ref a1), .val (.ref a1), .unset] []))
  refine own_st (fun t k => XS.aloadN X0.here hx rfl (hb hby d4_0) rfl rfl k) ?_
  show own_Fin p e below _ (s₁.setTop (mkF m 1 #[.val (.ref a1), .val (.ref a1), .unset] [(.ref a1)]))
  obtain ⟨T1, X1, e1, st1⟩ := instY X0 hx hZ hown (hw _ (List.mem_of_getElem? (i := 29) rfl)) e0 (Ins.self P0) (g := (mkF m 1 #[.val (.ref a1), .val (.ref a1), .unset] [(.ref a1)])) rfl rfl (hb hby d4_1)
  refine own_st st1 ?_
  show own_Fin p e below _ (T1.setTop (mkF m 4 #[.val (.ref a1), .val (.ref a1), .unset] [(.int (1 : Int32))]))
  refine own_st (fun t k => XS.ifYes X1.here hx rfl (pc0 := 4) (pc' := 9) rfl (hb hby d4_4) rfl (by decide) (by decide) (by decide) k) ?_
  show own_Fin p e below _ (T1.setTop (mkF m 9 #[.val (.ref a1), .val (.ref a1), .unset] []))
  refine own_st (fun t k => XS.aloadN X1.here hx rfl (hb hby d4_9) rfl rfl k) ?_
  show own_Fin p e below _ (T1.setTop (mkF m 10 #[.val (.ref a1), .val (.ref a1), .unset] [(.ref a1)]))
  obtain ⟨T2, X2, e2, st2⟩ := castY X1 hx hZ hown (hw _ (List.mem_of_getElem? (i := 29) rfl)) e1 (Ins.self P0) (g := (mkF m 10 #[.val (.ref a1), .val (.ref a1), .unset] [(.ref a1)])) rfl rfl (hb hby d4_10)
  refine own_st st2 ?_
  show own_Fin p e below _ (T2.setTop (mkF m 13 #[.val (.ref a1), .val (.ref a1), .unset] [(.ref a1)]))
  refine own_st (fun t k => XS.astoreN X2.here hx rfl (hb hby d4_13) rfl rfl (l' := #[.val (.ref a1), .val (.ref a1), .val (.ref a1)]) rfl k) ?_
  show own_Fin p e below _ (T2.setTop (mkF m 14 #[.val (.ref a1), .val (.ref a1), .val (.ref a1)] []))
  refine own_st (fun t k => XS.aloadN X2.here hx rfl (hb hby d4_14) rfl rfl k) ?_
  show own_Fin p e below _ (T2.setTop (mkF m 15 #[.val (.ref a1), .val (.ref a1), .val (.ref a1)] [(.ref a1)]))
  obtain ⟨T3, X3, e3, st3⟩ := getF X2 hx hZ hown (host := "") (Or.inl (hw _ (List.mem_of_getElem? (i := 16) rfl))) Via.refl e2 P1 (g := (mkF m 15 #[.val (.ref a1), .val (.ref a1), .val (.ref a1)] [(.ref a1)])) rfl rfl (hb hby d4_15)
  refine own_st st3 ?_
  show own_Fin p e below _ (T3.setTop (mkF m 18 #[.val (.ref a1), .val (.ref a1), .val (.ref a1)] [(.ref a2)]))
  refine own_st (fun t k => XS.aloadN X3.here hx rfl (hb hby d4_18) rfl rfl k) ?_
  show own_Fin p e below _ (T3.setTop (mkF m 19 #[.val (.ref a1), .val (.ref a1), .val (.ref a1)] [(.ref a1), (.ref a2)]))
  obtain ⟨T4, X4, e4, st4⟩ := getF X3 hx hZ hown (host := "") (Or.inl (hw _ (List.mem_of_getElem? (i := 16) rfl))) Via.refl e3 P1 (g := (mkF m 19 #[.val (.ref a1), .val (.ref a1), .val (.ref a1)] [(.ref a1), (.ref a2)])) rfl rfl (hb hby d4_19)
  refine own_st st4 ?_
  show own_Fin p e below _ (T4.setTop (mkF m 22 #[.val (.ref a1), .val (.ref a1), .val (.ref a1)] [(.ref a2), (.ref a2)]))
  refine own_st (fun t k => Jvm.RoadKit.acmp (g := (mkF m 22 #[.val (.ref a1), .val (.ref a1), .val (.ref a1)] [(.ref a2), (.ref a2)])) X4 hx rfl rfl rfl (pc0 := 22) (pc' := 25) (same := true) rfl (hb hby d4_22) rfl (decide_eq_true rfl) (by decide) (by decide) k) ?_
  show own_Fin p e below _ (T4.setTop (mkF m 25 #[.val (.ref a1), .val (.ref a1), .val (.ref a1)] []))
  refine own_st (fun t k => XS.aloadN X4.here hx rfl (hb hby d4_25) rfl rfl k) ?_
  show own_Fin p e below _ (T4.setTop (mkF m 26 #[.val (.ref a1), .val (.ref a1), .val (.ref a1)] [(.ref a1)]))
  obtain ⟨T5, X5, e5, st5⟩ := getF X4 hx hZ hown (host := "") (Or.inl (hw _ (List.mem_of_getElem? (i := 18) rfl))) Via.refl e4 P2 (g := (mkF m 26 #[.val (.ref a1), .val (.ref a1), .val (.ref a1)] [(.ref a1)])) rfl rfl (hb hby d4_26)
  refine own_st st5 ?_
  show own_Fin p e below _ (T5.setTop (mkF m 29 #[.val (.ref a1), .val (.ref a1), .val (.ref a1)] [(.int i3)]))
  refine own_st (fun t k => XS.aloadN X5.here hx rfl (hb hby d4_29) rfl rfl k) ?_
  show own_Fin p e below _ (T5.setTop (mkF m 30 #[.val (.ref a1), .val (.ref a1), .val (.ref a1)] [(.ref a1), (.int i3)]))
  obtain ⟨T6, X6, e6, st6⟩ := getF X5 hx hZ hown (host := "") (Or.inl (hw _ (List.mem_of_getElem? (i := 18) rfl))) Via.refl e5 P2 (g := (mkF m 30 #[.val (.ref a1), .val (.ref a1), .val (.ref a1)] [(.ref a1), (.int i3)])) rfl rfl (hb hby d4_30)
  refine own_st st6 ?_
  show own_Fin p e below _ (T6.setTop (mkF m 33 #[.val (.ref a1), .val (.ref a1), .val (.ref a1)] [(.int i3), (.int i3)]))
  refine own_st (fun t k => XS.icmpNo X6.here hx rfl (hb hby d4_33) rfl (teq rfl).2 k) ?_
  show own_Fin p e below _ (T6.setTop (mkF m 36 #[.val (.ref a1), .val (.ref a1), .val (.ref a1)] []))
  refine own_st (fun t k => XS.aloadN X6.here hx rfl (hb hby d4_36) rfl rfl k) ?_
  show own_Fin p e below _ (T6.setTop (mkF m 37 #[.val (.ref a1), .val (.ref a1), .val (.ref a1)] [(.ref a1)]))
  obtain ⟨T7, X7, e7, st7⟩ := getF X6 hx hZ hown (host := "") (Or.inl (hw _ (List.mem_of_getElem? (i := 20) rfl))) Via.refl e6 P3 (g := (mkF m 37 #[.val (.ref a1), .val (.ref a1), .val (.ref a1)] [(.ref a1)])) rfl rfl (hb hby d4_37)
  refine own_st st7 ?_
  show own_Fin p e below _ (T7.setTop (mkF m 40 #[.val (.ref a1), .val (.ref a1), .val (.ref a1)] [(.long j4)]))
  refine own_st (fun t k => XS.aloadN X7.here hx rfl (hb hby d4_40) rfl rfl k) ?_
  show own_Fin p e below _ (T7.setTop (mkF m 41 #[.val (.ref a1), .val (.ref a1), .val (.ref a1)] [(.ref a1), (.long j4)]))
  obtain ⟨T8, X8, e8, st8⟩ := getF X7 hx hZ hown (host := "") (Or.inl (hw _ (List.mem_of_getElem? (i := 20) rfl))) Via.refl e7 P3 (g := (mkF m 41 #[.val (.ref a1), .val (.ref a1), .val (.ref a1)] [(.ref a1), (.long j4)])) rfl rfl (hb hby d4_41)
  refine own_st st8 ?_
  show own_Fin p e below _ (T8.setTop (mkF m 44 #[.val (.ref a1), .val (.ref a1), .val (.ref a1)] [(.long j4), (.long j4)]))
  refine own_st (fun t k => XS.lcmp X8.here hx rfl (hb hby d4_44) rfl k) ?_
  show own_Fin p e below _ (T8.setTop (mkF m 45 #[.val (.ref a1), .val (.ref a1), .val (.ref a1)] [(.int (lcmpW j4 j4))]))
  refine own_st (fun t k => XS.ifNo X8.here hx rfl (hb hby d4_45) rfl ((if0 _ _).trans (teq ((lw_eq j4 j4).2 rfl)).2) k) ?_
  show own_Fin p e below _ (T8.setTop (mkF m 48 #[.val (.ref a1), .val (.ref a1), .val (.ref a1)] []))
  refine own_st (fun t k => XS.aloadN X8.here hx rfl (hb hby d4_48) rfl rfl k) ?_
  show own_Fin p e below _ (T8.setTop (mkF m 49 #[.val (.ref a1), .val (.ref a1), .val (.ref a1)] [(.ref a1)]))
  obtain ⟨T9, X9, e9, st9⟩ := getF X8 hx hZ hown (host := "") (Or.inl (hw _ (List.mem_of_getElem? (i := 22) rfl))) Via.refl e8 P5 (g := (mkF m 49 #[.val (.ref a1), .val (.ref a1), .val (.ref a1)] [(.ref a1)])) rfl rfl (hb hby d4_49)
  refine own_st st9 ?_
  show own_Fin p e below _ (T9.setTop (mkF m 52 #[.val (.ref a1), .val (.ref a1), .val (.ref a1)] [(.int i5)]))
  refine own_st (fun t k => XS.aloadN X9.here hx rfl (hb hby d4_52) rfl rfl k) ?_
  show own_Fin p e below _ (T9.setTop (mkF m 53 #[.val (.ref a1), .val (.ref a1), .val (.ref a1)] [(.ref a1), (.int i5)]))
  obtain ⟨T10, X10, e10, st10⟩ := getF X9 hx hZ hown (host := "") (Or.inl (hw _ (List.mem_of_getElem? (i := 22) rfl))) Via.refl e9 P5 (g := (mkF m 53 #[.val (.ref a1), .val (.ref a1), .val (.ref a1)] [(.ref a1), (.int i5)])) rfl rfl (hb hby d4_53)
  refine own_st st10 ?_
  show own_Fin p e below _ (T10.setTop (mkF m 56 #[.val (.ref a1), .val (.ref a1), .val (.ref a1)] [(.int i5), (.int i5)]))
  refine own_st (fun t k => XS.icmpNo X10.here hx rfl (hb hby d4_56) rfl (teq rfl).2 k) ?_
  show own_Fin p e below _ (T10.setTop (mkF m 59 #[.val (.ref a1), .val (.ref a1), .val (.ref a1)] []))
  refine own_st (fun t k => XS.iconst X10.here hx rfl (hb hby d4_59) k) ?_
  show own_Fin p e below _ (T10.setTop (mkF m 60 #[.val (.ref a1), .val (.ref a1), .val (.ref a1)] [(.int (1 : Int32))]))
  refine own_st (fun t k => XS.goto X10.here hx rfl (pc0 := 60) (pc' := 64) rfl (hb hby d4_60) (by decide) (by decide) k) ?_
  show own_Fin p e below _ (T10.setTop (mkF m 64 #[.val (.ref a1), .val (.ref a1), .val (.ref a1)] [(.int (1 : Int32))]))
  obtain ⟨fs, hr, hrun, hended, hW, hsame⟩ := X10.leave (v := some (.int (1 : Int32))) (fun h => by rw [Bd.returns] at h; cases h)
  exact ⟨_, _, retN X10 hx (t := .boolean) Bd.returns (by simp) (hb hby d4_64) hr, hrun, hended, _, _, rfl, ⟨rfl, N0, e10⟩, ⟨_, rfl⟩, hW, hsame.mono (by decide) (by decide)⟩
theorem d5_0 : decode jdk_42_method_139_code 0 = .ok (.getstatic 38, 3) := by decide +kernel
theorem d5_3 : decode jdk_42_method_139_code 3 = .ok (.ifCond .eq 23, 3) := by decide +kernel
theorem d5_6 : decode jdk_42_method_139_code 6 = .ok (.iload_n 0, 1) := by decide +kernel
theorem d5_7 : decode jdk_42_method_139_code 7 = .ok (.invokestatic 1015, 3) := by decide +kernel
theorem d6_0 : decode jdk_43_method_3_code 0 = .ok (.iload_n 0, 1) := by decide +kernel
theorem d6_1 : decode jdk_43_method_3_code 1 = .ok (.sipush 255, 3) := by decide +kernel
theorem d6_4 : decode jdk_43_method_3_code 4 = .ok (.if_icmp .gt 7, 3) := by decide +kernel
theorem d6_7 : decode jdk_43_method_3_code 7 = .ok (.iconst 1, 1) := by decide +kernel
theorem d6_8 : decode jdk_43_method_3_code 8 = .ok (.goto 4, 3) := by decide +kernel
theorem d6_12 : decode jdk_43_method_3_code 12 = .ok (.ireturn, 1) := by decide +kernel
theorem ef_6_I (m : MethodId) (x0 : Int32) : entryFrame m #[(.int x0)] 1 = mkF m 0 #[.val (.int x0)] [] := by first | (simp [entryFrame, mkF, argsToLocals, Value.category]; done) | rfl
theorem pn_java_lang_StringLatin1 : plainName "java/lang/StringLatin1" = true := by first | (simp [plainName, overriddenIn]; done) | decide +kernel
set_option maxRecDepth 65536 in
set_option maxHeartbeats 40000000 in
theorem rm6_11 (l : Launch) (Z : State) (a0 : Array Value) (hw : ∀ d ∈ tables_1, d.before a0 Z = true) (ws : List Jvm.Cond) (i1 : Int32) (h0 : Heap) (n0 : Nat) (Z0 : n0 ≤ Array.size h0) (P0 : ¬ ((255 : Int32) < i1)) :
    MetFree l (⟨"java/lang/StringLatin1", "canEncode", "(C)Z"⟩ : MethodName) (head1 (Jvm.Cond.code (⟨"java/lang/StringLatin1", "canEncode", "(C)Z"⟩ : MethodName) jdk_43_method_3_code 1 (some .boolean) :: ws) ({ frames := 0, cells := 0, slots := 0, locals := 0 } : Room)) (fun a U => a = #[(.int i1)] ∧ Z.Warmed39 U.vm ∧ U.heap = h0) (fun _ _ _ _ _ => True) (fun _ U o U' => ∃ v L, o = .returned v ∧ own_Q h0 n0 (some (.int (1 : Int32))) v U'.heap L ∧ FrameEnd U o U' L ({ frames := 0, cells := 0, slots := 0, locals := 0 } : Room).cells ({ frames := 0, cells := 0, slots := 0, locals := 0 } : Room).slots) := by
  refine MetFree.of_bodySF (plainFor_of_name pn_java_lang_StringLatin1) hisR ?_
  intro p e s m args below meth c s₁ Bd hml0 hP hK
  obtain ⟨rfl, hZ, hh⟩ := hP
  have hx := Bd.exec
  have hby := Bd.bytes
  have hml : c.maxLocals = 1 := hml0
  have hown : s.vm.findClass "java/lang/StringLatin1" = some m.cls := findClass_of_methodNamed Bd.named
  have hnm := (name_of_methodNamed Bd.named Bd.method).1
  have X0 : Stand p l e ({ frames := 0, cells := 0, slots := 0, locals := 0 } : Room) s m #[(.int i1)] below meth c s₁ [] 0 0 := Stand.of_body Bd
  have e0 : s₁.heap = h0 := by rw [← hh, Bd.state]; rfl
  have N0 := Fr.nil n0
  refine (?_ : own_Fin p e below _ _)
  refine own_st (fun t k => castTop (ef_6_I m i1) k) ?_
  show own_Fin p e below _ (s₁.setTop (mkF m 0 #[.val (.int i1)] []))
  refine own_st (fun t k => XS.iloadN X0.here hx rfl (hb hby d6_0) rfl k) ?_
  show own_Fin p e below _ (s₁.setTop (mkF m 1 #[.val (.int i1)] [(.int i1)]))
  refine own_st (fun t k => XS.sipush X0.here hx rfl (hb hby d6_1) k) ?_
  show own_Fin p e below _ (s₁.setTop (mkF m 4 #[.val (.int i1)] [(.int (255 : Int32)), (.int i1)]))
  refine own_st (fun t k => XS.icmpNo X0.here hx rfl (hb hby d6_4) rfl (flt P0).2.2.1 k) ?_
  show own_Fin p e below _ (s₁.setTop (mkF m 7 #[.val (.int i1)] []))
  refine own_st (fun t k => XS.iconst X0.here hx rfl (hb hby d6_7) k) ?_
  show own_Fin p e below _ (s₁.setTop (mkF m 8 #[.val (.int i1)] [(.int (1 : Int32))]))
  refine own_st (fun t k => XS.goto X0.here hx rfl (pc0 := 8) (pc' := 12) rfl (hb hby d6_8) (by decide) (by decide) k) ?_
  show own_Fin p e below _ (s₁.setTop (mkF m 12 #[.val (.int i1)] [(.int (1 : Int32))]))
  obtain ⟨fs, hr, hrun, hended, hW, hsame⟩ := X0.leave (v := some (.int (1 : Int32))) (fun h => by rw [Bd.returns] at h; cases h)
  exact ⟨_, _, retN X0 hx (t := .boolean) Bd.returns (by simp) (hb hby d6_12) hr, hrun, hended, _, _, rfl, ⟨rfl, N0, e0⟩, ⟨_, rfl⟩, hW, hsame.mono (by decide) (by decide)⟩
theorem pd__C_Z : parseMethodDescriptor "(C)Z" = some ⟨[.char], some .boolean⟩ := by decide +kernel
theorem d5_10 : decode jdk_42_method_139_code 10 = .ok (.ifCond .eq 16, 3) := by decide +kernel
theorem d5_13 : decode jdk_42_method_139_code 13 = .ok (.new 10, 3) := by decide +kernel
theorem d5_16 : decode jdk_42_method_139_code 16 = .ok (.dup, 1) := by decide +kernel
theorem d5_17 : decode jdk_42_method_139_code 17 = .ok (.iload_n 0, 1) := by decide +kernel
theorem d5_18 : decode jdk_42_method_139_code 18 = .ok (.invokestatic 1018, 3) := by decide +kernel
theorem d7_0 : decode jdk_43_method_46_code 0 = .ok (.iconst 1, 1) := by decide +kernel
theorem d7_1 : decode jdk_43_method_46_code 1 = .ok (.newarray .byte, 2) := by decide +kernel
theorem d7_3 : decode jdk_43_method_46_code 3 = .ok (.dup, 1) := by decide +kernel
theorem d7_4 : decode jdk_43_method_46_code 4 = .ok (.iconst 0, 1) := by decide +kernel
theorem d7_5 : decode jdk_43_method_46_code 5 = .ok (.iload_n 0, 1) := by decide +kernel
theorem d7_6 : decode jdk_43_method_46_code 6 = .ok (.i2b, 1) := by decide +kernel
theorem d7_7 : decode jdk_43_method_46_code 7 = .ok (.bastore, 1) := by decide +kernel
theorem d7_8 : decode jdk_43_method_46_code 8 = .ok (.areturn, 1) := by decide +kernel
theorem ef_7_I (m : MethodId) (x0 : Int32) : entryFrame m #[(.int x0)] 1 = mkF m 0 #[.val (.int x0)] [] := by first | (simp [entryFrame, mkF, argsToLocals, Value.category]; done) | rfl
def Q7_12 (Z : State) (i1 : Int32) (h0 : Heap) (n0 : Nat) (v : Option Value) (h : Heap) (L : List Loc) : Prop := ∃ b1 : Addr, v = some (.ref b1) ∧ Fr n0 L ∧ Keep h0 h [] ∧ Array.size h0 ≤ b1
set_option maxRecDepth 65536 in
set_option maxHeartbeats 40000000 in
theorem rm7_12 (l : Launch) (Z : State) (a0 : Array Value) (hw : ∀ d ∈ tables_1, d.before a0 Z = true) (ws : List Jvm.Cond) (i1 : Int32) (h0 : Heap) (n0 : Nat) (Z0 : n0 ≤ Array.size h0) :
    MetFree l (⟨"java/lang/StringLatin1", "toBytes", "(C)[B"⟩ : MethodName) (head1 (Jvm.Cond.code (⟨"java/lang/StringLatin1", "toBytes", "(C)[B"⟩ : MethodName) jdk_43_method_46_code 1 (some (.array .byte)) :: ws) ({ frames := 0, cells := 1, slots := 1, locals := 0 } : Room)) (fun a U => a = #[(.int i1)] ∧ Z.Warmed39 U.vm ∧ U.heap = h0) (fun _ _ _ _ _ => True) (fun _ U o U' => ∃ v L, o = .returned v ∧ Q7_12 Z i1 h0 n0 v U'.heap L ∧ FrameEnd U o U' L ({ frames := 0, cells := 1, slots := 1, locals := 0 } : Room).cells ({ frames := 0, cells := 1, slots := 1, locals := 0 } : Room).slots) := by
  refine MetFree.of_bodySF (plainFor_of_name pn_java_lang_StringLatin1) hisR ?_
  intro p e s m args below meth c s₁ Bd hml0 hP hK
  obtain ⟨rfl, hZ, hh⟩ := hP
  have hx := Bd.exec
  have hby := Bd.bytes
  have hml : c.maxLocals = 1 := hml0
  have hown : s.vm.findClass "java/lang/StringLatin1" = some m.cls := findClass_of_methodNamed Bd.named
  have hnm := (name_of_methodNamed Bd.named Bd.method).1
  have X0 : Stand p l e ({ frames := 0, cells := 1, slots := 1, locals := 0 } : Room) s m #[(.int i1)] below meth c s₁ [] 0 0 := Stand.of_body Bd
  have e0 : s₁.heap = h0 := by rw [← hh, Bd.state]; rfl
  have N0 := Fr.nil n0
  refine (?_ : own_Fin p e below _ _)
  refine own_st (fun t k => castTop (ef_7_I m i1) k) ?_
  show own_Fin p e below _ (s₁.setTop (mkF m 0 #[.val (.int i1)] []))
  refine own_st (fun t k => XS.iconst X0.here hx rfl (hb hby d7_0) k) ?_
  show own_Fin p e below _ (s₁.setTop (mkF m 1 #[.val (.int i1)] [(.int (1 : Int32))]))
  obtain ⟨T1, h1, k1, X1, e1, E1, A1, st1⟩ := newP X0 hx hZ (hw _ (List.mem_of_getElem? (i := 51) rfl)) e0 (g := (mkF m 1 #[.val (.int i1)] [(.int (1 : Int32))])) rfl (hb hby d7_1) rfl (by decide) (cap := 1) (by decide) (by decide) (by decide) (by decide)
  obtain ⟨b1, g1⟩ : ∃ z, z = Array.size h0 := ⟨_, rfl⟩
  rw [show Array.size h0 = b1 from g1.symm] at A1 st1
  have le_b1 : Array.size h0 ≤ b1 := Nat.le_of_eq g1.symm
  have V1 : Arv Z h1 b1 k1 .byte (1 : Int32) [(.int (0 : Int32))] (.int (0 : Int32)) := (Arv.new A1 (by decide)).pad (pad_rep [] (.int (0 : Int32)) 1)
  have sz_b1 : h0.size ≤ b1 := Nat.le_trans (Keep.refl h0 []).1 le_b1
  have g_b1 : n0 ≤ b1 := Nat.le_trans Z0 sz_b1
  have Z2 : n0 ≤ Array.size h1 := Nat.le_trans Z0 E1.1
  have KC2 : Keep h0 h1 [] := (Keep.refl h0 []).ext E1
  refine own_st st1 ?_
  show own_Fin p e below _ (T1.setTop (mkF m 3 #[.val (.int i1)] [(.ref b1)]))
  refine own_st (fun t k => XS.dup X1.here hx rfl (hb hby d7_3) rfl rfl k) ?_
  show own_Fin p e below _ (T1.setTop (mkF m 4 #[.val (.int i1)] [(.ref b1), (.ref b1)]))
  refine own_st (fun t k => XS.iconst X1.here hx rfl (hb hby d7_4) k) ?_
  show own_Fin p e below _ (T1.setTop (mkF m 5 #[.val (.int i1)] [(.int (0 : Int32)), (.ref b1), (.ref b1)]))
  refine own_st (fun t k => XS.iloadN X1.here hx rfl (hb hby d7_5) rfl k) ?_
  show own_Fin p e below _ (T1.setTop (mkF m 6 #[.val (.int i1)] [(.int i1), (.int (0 : Int32)), (.ref b1), (.ref b1)]))
  refine own_st (fun t k => XS.i2b X1.here hx rfl (hb hby d7_6) rfl k) ?_
  show own_Fin p e below _ (T1.setTop (mkF m 7 #[.val (.int i1)] [(.int (i1.toInt8.toInt32)), (.int (0 : Int32)), (.ref b1), (.ref b1)]))
  obtain ⟨cl3, Ar3, aq3, aS3, aN3, aH3, aG3⟩ := V1
  have hin3 : ¬ ((0 : Int32) < 0 ∨ cl3.slots.size ≤ ((0 : Int32)).toNatClampNeg) := inb_of aS3 (by decide)
  obtain ⟨T3, h3, X3, e3, W3, st3⟩ := stB X1 hx hZ e1 Ar3 (j := (0 : Int32)) hin3 (g := (mkF m 7 #[.val (.int i1)] [(.int (i1.toInt8.toInt32)), (.int (0 : Int32)), (.ref b1), (.ref b1)])) rfl rfl (hb hby d7_7)
  have N3 := Fr.snoc X3 N0 g_b1
  have V3 : Arv Z h3 b1 k1 .byte (1 : Int32) [(.int (nar .byte (i1.toInt8.toInt32)))] (.int (0 : Int32)) := Arv.set Ar3 aq3 aS3 aN3 aH3 aG3 (fits_nar_byte _) W3 0 rfl (Nat.le_of_ble_eq_true rfl)
  have Z4 : n0 ≤ Array.size h3 := Nat.le_trans Z2 (Keep.of_wr W3).1
  have KC4 : Keep h0 h3 [] := KC2.wr W3 (Or.inr sz_b1)
  refine own_st st3 ?_
  show own_Fin p e below _ (T3.setTop (mkF m 8 #[.val (.int i1)] [(.ref b1)]))
  obtain ⟨fs, hr, hrun, hended, hW, hsame⟩ := X3.leave (v := some (.ref b1)) (fun h => by rw [Bd.returns] at h; cases h)
  have hQf : Q7_12 Z i1 h0 n0 _ h3 _ := ⟨b1, rfl, N3, KC4, sz_b1⟩
  exact ⟨_, _, retOut X3 hx (t := (.array .byte)) Bd.returns rfl (Or.inr (Or.inr (Or.inr (Or.inr ⟨rfl, rfl, rfl⟩)))) (hb hby d7_8) hr, hrun, hended, _, _, rfl, (by show Q7_12 Z i1 h0 n0 _ T3.heap _; rw [e3]; exact hQf), ⟨_, rfl⟩, hW, hsame.mono (by decide) (by decide)⟩
theorem pd__C__B : parseMethodDescriptor "(C)[B" = some ⟨[.char], some (.array .byte)⟩ := by decide +kernel
theorem d5_21 : decode jdk_42_method_139_code 21 = .ok (.iconst 0, 1) := by decide +kernel
theorem d5_22 : decode jdk_42_method_139_code 22 = .ok (.invokespecial 209, 3) := by decide +kernel
theorem d8_0 : decode jdk_42_method_151_code 0 = .ok (.aload_n 0, 1) := by decide +kernel
theorem d8_1 : decode jdk_42_method_151_code 1 = .ok (.invokespecial 1, 3) := by decide +kernel
theorem d8_4 : decode jdk_42_method_151_code 4 = .ok (.aload_n 0, 1) := by decide +kernel
theorem d8_5 : decode jdk_42_method_151_code 5 = .ok (.aload_n 1, 1) := by decide +kernel
theorem d8_6 : decode jdk_42_method_151_code 6 = .ok (.putfield 9, 3) := by decide +kernel
theorem d8_9 : decode jdk_42_method_151_code 9 = .ok (.aload_n 0, 1) := by decide +kernel
theorem d8_10 : decode jdk_42_method_151_code 10 = .ok (.iload_n 2, 1) := by decide +kernel
theorem d8_11 : decode jdk_42_method_151_code 11 = .ok (.putfield 15, 3) := by decide +kernel
theorem d8_14 : decode jdk_42_method_151_code 14 = .ok (.return_, 1) := by decide +kernel
theorem ef_8_RRI (m : MethodId) (x0 : Addr) (x1 : Addr) (x2 : Int32) : entryFrame m #[(.ref x0), (.ref x1), (.int x2)] 3 = mkF m 0 #[.val (.ref x0), .val (.ref x1), .val (.int x2)] [] := by first | (simp [entryFrame, mkF, argsToLocals, Value.category]; done) | rfl
theorem pn_java_lang_String : plainName "java/lang/String" = true := by first | (simp [plainName, overriddenIn]; done) | decide +kernel
def Q8_13 (Z : State) (a1 : Addr) (a2 : Addr) (h0 : Heap) (n0 : Nat) (v : Option Value) (h : Heap) (L : List Loc) : Prop := v = none ∧ Fr n0 L ∧ Keep h0 h [a1] ∧ Fld Z h a1 "java/lang/String" "value" "[B" (.ref a2) ∧ Fld Z h a1 "java/lang/String" "coder" "B" (.int (0 : Int32))
set_option maxRecDepth 65536 in
set_option maxHeartbeats 40000000 in
theorem rm8_13 (l : Launch) (Z : State) (a0 : Array Value) (hw : ∀ d ∈ tables_1, d.before a0 Z = true) (ws : List Jvm.Cond) (a1 : Addr) (a2 : Addr) (h0 : Heap) (n0 : Nat) (Z0 : n0 ≤ Array.size h0) (P0 : Fld Z h0 a1 "java/lang/String" "value" "[B" .null) (P1 : Exa Z h0 a1 "java/lang/String") (P2 : n0 ≤ a1) (P3 : Fld Z h0 a1 "java/lang/String" "coder" "B" (.int (0 : Int32))) :
    MetFree l (⟨"java/lang/String", "<init>", "([BB)V"⟩ : MethodName) (head1 (Jvm.Cond.code (⟨"java/lang/String", "<init>", "([BB)V"⟩ : MethodName) jdk_42_method_151_code 3 none :: ws) ({ frames := 1, cells := 0, slots := 0, locals := 12 } : Room)) (fun a U => a = #[(.ref a1), (.ref a2), (.int (0 : Int32))] ∧ Z.Warmed39 U.vm ∧ U.heap = h0) (fun _ _ _ _ _ => True) (fun _ U o U' => ∃ v L, o = .returned v ∧ Q8_13 Z a1 a2 h0 n0 v U'.heap L ∧ FrameEnd U o U' L ({ frames := 1, cells := 0, slots := 0, locals := 12 } : Room).cells ({ frames := 1, cells := 0, slots := 0, locals := 12 } : Room).slots) := by
  refine MetFree.of_bodySF (plainFor_of_name pn_java_lang_String) hisR ?_
  intro p e s m args below meth c s₁ Bd hml0 hP hK
  obtain ⟨rfl, hZ, hh⟩ := hP
  have hx := Bd.exec
  have hby := Bd.bytes
  have hml : c.maxLocals = 3 := hml0
  have hown : s.vm.findClass "java/lang/String" = some m.cls := findClass_of_methodNamed Bd.named
  have hnm := (name_of_methodNamed Bd.named Bd.method).1
  have X0 : Stand p l e ({ frames := 1, cells := 0, slots := 0, locals := 12 } : Room) s m #[(.ref a1), (.ref a2), (.int (0 : Int32))] below meth c s₁ [] 0 0 := Stand.of_body Bd
  have e0 : s₁.heap = h0 := by rw [← hh, Bd.state]; rfl
  have N0 := Fr.nil n0
  refine (?_ : own_Fin p e below _ _)
  refine own_st (fun t k => castTop (ef_8_RRI m a1 a2 (0 : Int32)) k) ?_
  show own_Fin p e below _ (s₁.setTop (mkF m 0 #[.val (.ref a1), .val (.ref a2), .val (.int (0 : Int32))] []))
  refine own_st (fun t k => XS.aloadN X0.here hx rfl (hb hby d8_0) rfl rfl k) ?_
  show own_Fin p e below _ (s₁.setTop (mkF m 1 #[.val (.ref a1), .val (.ref a2), .val (.int (0 : Int32))] [(.ref a1)]))
  obtain ⟨T1, X1, e1, st1⟩ := initO X0 hx hZ hown (hw _ (List.mem_of_getElem? (i := 56) rfl)) (hw _ (List.mem_of_getElem? (i := 14) rfl)) (hw _ (List.mem_of_getElem? (i := 15) rfl)) e0 (g := (mkF m 1 #[.val (.ref a1), .val (.ref a2), .val (.int (0 : Int32))] [(.ref a1)])) rfl (by rw [hml]; rfl) rfl (hb hby d8_1) (by decide) (W := 0) (by show 2 * 0 + _ ≤ _; exact Nat.le_of_eq rfl) (by decide)
  refine own_st st1 ?_
  show own_Fin p e below _ (T1.setTop (mkF m 4 #[.val (.ref a1), .val (.ref a2), .val (.int (0 : Int32))] []))
  refine own_st (fun t k => XS.aloadN X1.here hx rfl (hb hby d8_4) rfl rfl k) ?_
  show own_Fin p e below _ (T1.setTop (mkF m 5 #[.val (.ref a1), .val (.ref a2), .val (.int (0 : Int32))] [(.ref a1)]))
  refine own_st (fun t k => XS.aloadN X1.here hx rfl (hb hby d8_5) rfl rfl k) ?_
  show own_Fin p e below _ (T1.setTop (mkF m 6 #[.val (.ref a1), .val (.ref a2), .val (.int (0 : Int32))] [(.ref a2), (.ref a1)]))
  obtain ⟨T2, h2, X2, e2, W2, st2⟩ := putF X1 hx hZ hown (host := "") (Or.inl (hw _ (List.mem_of_getElem? (i := 57) rfl))) Via.refl e1 P0 P1 (Or.inr ⟨(hw _ (List.mem_of_getElem? (i := 58) rfl)), rfl, hnm⟩) (hw _ (List.mem_of_getElem? (i := 47) rfl)) (ty := (.array .byte)) (by decide) rfl rfl (g := (mkF m 6 #[.val (.ref a1), .val (.ref a2), .val (.int (0 : Int32))] [(.ref a2), (.ref a1)])) rfl rfl (hb hby d8_6)
  have F2 : Fld Z h2 a1 "java/lang/String" "value" "[B" (.ref a2) := P0.same W2
  have N2 := Fr.snoc X2 N0 P2
  have Z3 : n0 ≤ Array.size h2 := Nat.le_trans Z0 (Keep.of_wr W2).1
  have KC3 : Keep h0 h2 [a1] := (Keep.refl h0 [a1]).wr W2 (Or.inl (List.mem_of_getElem? (i := 0) rfl))
  refine own_st st2 ?_
  show own_Fin p e below _ (T2.setTop (mkF m 9 #[.val (.ref a1), .val (.ref a2), .val (.int (0 : Int32))] []))
  refine own_st (fun t k => XS.aloadN X2.here hx rfl (hb hby d8_9) rfl rfl k) ?_
  show own_Fin p e below _ (T2.setTop (mkF m 10 #[.val (.ref a1), .val (.ref a2), .val (.int (0 : Int32))] [(.ref a1)]))
  refine own_st (fun t k => XS.iloadN X2.here hx rfl (hb hby d8_10) rfl k) ?_
  show own_Fin p e below _ (T2.setTop (mkF m 11 #[.val (.ref a1), .val (.ref a2), .val (.int (0 : Int32))] [(.int (0 : Int32)), (.ref a1)]))
  have F4 : Fld Z h2 a1 "java/lang/String" "coder" "B" (.int (0 : Int32)) := (P3.other W2 (Or.inr (slot_ne (Or.inr (hw _ (List.mem_of_getElem? (i := 60) rfl))) (Or.inr (hw _ (List.mem_of_getElem? (i := 58) rfl))) (by decide) (t := .byte) (t' := (.array .byte)) (by decide) (by decide))))
  have F5 : Exa Z h2 a1 "java/lang/String" := (P1.wr W2)
  obtain ⟨T6, h6, X6, e6, W6, st6⟩ := putF X2 hx hZ hown (host := "") (Or.inl (hw _ (List.mem_of_getElem? (i := 59) rfl))) Via.refl e2 F4 F5 (Or.inr ⟨(hw _ (List.mem_of_getElem? (i := 60) rfl)), rfl, hnm⟩) (hw _ (List.mem_of_getElem? (i := 47) rfl)) (ty := .byte) (by decide) rfl rfl (g := (mkF m 11 #[.val (.ref a1), .val (.ref a2), .val (.int (0 : Int32))] [(.int (0 : Int32)), (.ref a1)])) rfl rfl (hb hby d8_11)
  have F6 : Fld Z h6 a1 "java/lang/String" "coder" "B" (.int (0 : Int32)) := F4.same W6
  have N6 := Fr.snoc X6 N2 P2
  have Z7 : n0 ≤ Array.size h6 := Nat.le_trans Z3 (Keep.of_wr W6).1
  have KC7 : Keep h0 h6 [a1] := KC3.wr W6 (Or.inl (List.mem_of_getElem? (i := 0) rfl))
  refine own_st st6 ?_
  show own_Fin p e below _ (T6.setTop (mkF m 14 #[.val (.ref a1), .val (.ref a2), .val (.int (0 : Int32))] []))
  have F8 : Fld Z h6 a1 "java/lang/String" "value" "[B" (.ref a2) := (F2.other W6 (Or.inr (slot_ne (Or.inr (hw _ (List.mem_of_getElem? (i := 58) rfl))) (Or.inr (hw _ (List.mem_of_getElem? (i := 60) rfl))) (by decide) (t := (.array .byte)) (t' := .byte) (by decide) (by decide))))
  obtain ⟨fs, hr, hrun, hended, hW, hsame⟩ := X6.leave (v := none) (fun _ => rfl)
  have hQf : Q8_13 Z a1 a2 h0 n0 _ h6 _ := ⟨rfl, N6, KC7, F8, F6⟩
  exact ⟨_, _, X6.returnOut hx Bd.returns (hb hby d8_14) hr, hrun, hended, _, _, rfl, (by show Q8_13 Z a1 a2 h0 n0 _ T6.heap _; rw [e6]; exact hQf), ⟨_, rfl⟩, hW, hsame.mono (by decide) (by decide)⟩
theorem pd___BB_V : parseMethodDescriptor "([BB)V" = some ⟨[(.array .byte), .byte], none⟩ := by decide +kernel
theorem d5_25 : decode jdk_42_method_139_code 25 = .ok (.areturn, 1) := by decide +kernel
theorem ef_5_I (m : MethodId) (x0 : Int32) : entryFrame m #[(.int x0)] 1 = mkF m 0 #[.val (.int x0)] [] := by first | (simp [entryFrame, mkF, argsToLocals, Value.category]; done) | rfl
def Q5_14 (Z : State) (i1 : Int32) (i2 : Int32) (h0 : Heap) (n0 : Nat) (v : Option Value) (h : Heap) (L : List Loc) : Prop := ∃ b3 b5_0 : Addr, v = some (.ref b3) ∧ Fr n0 L ∧ Keep h0 h [] ∧ Array.size h0 ≤ b3 ∧ Array.size h0 ≤ b5_0 ∧ Exa Z h b3 "java/lang/String" ∧ Fld Z h b3 "java/lang/String" "value" "[B" (.ref b5_0) ∧ Fld Z h b3 "java/lang/String" "coder" "B" (.int (0 : Int32)) ∧ b3 ≠ b5_0
set_option maxRecDepth 65536 in
set_option maxHeartbeats 40000000 in
theorem rm5_14 (l : Launch) (Z : State) (a0 : Array Value) (hw : ∀ d ∈ tables_1, d.before a0 Z = true) (ws : List Jvm.Cond) (i1 : Int32) (i2 : Int32) (h0 : Heap) (n0 : Nat) (Z0 : n0 ≤ Array.size h0) (P0 : Sta Z h0 "java/lang/String" "COMPACT_STRINGS" "Z" (.int i2)) (P1 : ¬ (i2 = (0 : Int32))) (P2 : ¬ ((255 : Int32) < i1)) :
    MetFree l (⟨"java/lang/String", "valueOf", "(C)Ljava/lang/String;"⟩ : MethodName) (head1 (Jvm.Cond.code (⟨"java/lang/String", "valueOf", "(C)Ljava/lang/String;"⟩ : MethodName) jdk_42_method_139_code 1 (some (.object "java/lang/String")) :: ws) ({ frames := 2, cells := 2, slots := 5, locals := 27 } : Room)) (fun a U => a = #[(.int i1)] ∧ Z.Warmed39 U.vm ∧ U.heap = h0) (fun _ _ _ _ _ => True) (fun _ U o U' => ∃ v L, o = .returned v ∧ Q5_14 Z i1 i2 h0 n0 v U'.heap L ∧ FrameEnd U o U' L ({ frames := 2, cells := 2, slots := 5, locals := 27 } : Room).cells ({ frames := 2, cells := 2, slots := 5, locals := 27 } : Room).slots) := by
  refine MetFree.of_bodySF (plainFor_of_name pn_java_lang_String) hisR ?_
  intro p e s m args below meth c s₁ Bd hml0 hP hK
  obtain ⟨rfl, hZ, hh⟩ := hP
  have hx := Bd.exec
  have hby := Bd.bytes
  have hml : c.maxLocals = 1 := hml0
  have hown : s.vm.findClass "java/lang/String" = some m.cls := findClass_of_methodNamed Bd.named
  have hnm := (name_of_methodNamed Bd.named Bd.method).1
  have X0 : Stand p l e ({ frames := 2, cells := 2, slots := 5, locals := 27 } : Room) s m #[(.int i1)] below meth c s₁ [] 0 0 := Stand.of_body Bd
  have e0 : s₁.heap = h0 := by rw [← hh, Bd.state]; rfl
  have N0 := Fr.nil n0
  refine (?_ : own_Fin p e below _ _)
  refine own_st (fun t k => castTop (ef_5_I m i1) k) ?_
  show own_Fin p e below _ (s₁.setTop (mkF m 0 #[.val (.int i1)] []))
  obtain ⟨T1, X1, e1, st1⟩ := getS2 X0 hx hZ hown (host := "") (Or.inl (hw _ (List.mem_of_getElem? (i := 41) rfl))) Via.refl e0 P0 (g := (mkF m 0 #[.val (.int i1)] [])) rfl (hb hby d5_0)
  refine own_st st1 ?_
  show own_Fin p e below _ (T1.setTop (mkF m 3 #[.val (.int i1)] [(.int i2)]))
  refine own_st (fun t k => XS.ifNo X1.here hx rfl (hb hby d5_3) rfl ((if0 _ _).trans (feq P1).1) k) ?_
  show own_Fin p e below _ (T1.setTop (mkF m 6 #[.val (.int i1)] []))
  refine own_st (fun t k => XS.iloadN X1.here hx rfl (hb hby d5_6) rfl k) ?_
  show own_Fin p e below _ (T1.setTop (mkF m 7 #[.val (.int i1)] [(.int i1)]))
  obtain ⟨_, _, ⟨T2, L2, k2, n2⟩, -, X2, ⟨Lc2, hQ2, l2, y2, z2⟩, st2⟩ := Jvm.LawKit.callS X1 hx (y := (⟨"java/lang/StringLatin1", "canEncode", "(C)Z"⟩ : MethodName)) hown (mvT hZ (hw _ (List.mem_of_getElem? (i := 42) rfl))) (mvT hZ (hw _ (List.mem_of_getElem? (i := 43) rfl))) (mvT hZ (hw _ (List.mem_of_getElem? (i := 44) rfl))) (mvT hZ (hw _ (List.mem_of_getElem? (i := 45) rfl))) (by decide) (backOf (W := 0) (rm6_11 l Z a0 hw [] i1 h0 n0 Z0 P2) hZ (hw _ (List.mem_of_getElem? (i := 45) rfl)) (hw _ (List.mem_of_getElem? (i := 44) rfl)) (by decide) (by decide)) (g := (mkF m 7 #[.val (.int i1)] [(.int i1)])) rfl (by rw [hml]; rfl) (argsL := [(.int i1)]) (rest := []) (lenOf pd__C_Z rfl) rfl (by show 2 * 0 + _ ≤ _; exact Nat.le_of_eq rfl) (hb hby d5_7) (fun _ _ => ⟨rfl, e1, (by decide : 0 + 0 ≤ _), (by decide : 0 + 0 ≤ _)⟩)
  dsimp only [Pt.U, Pt.locs, Pt.cells, Pt.slots] at X2 l2 y2 z2 st2 hQ2
  subst l2 y2 z2
  obtain ⟨rfl, N2q, e2⟩ := hQ2
  have N2 := Fr.app N0 N2q
  refine own_st st2 ?_
  show own_Fin p e below _ (T2.setTop (mkF m 10 #[.val (.int i1)] [(.int (1 : Int32))]))
  refine own_st (fun t k => XS.ifNo X2.here hx rfl (hb hby d5_10) rfl (by decide) k) ?_
  show own_Fin p e below _ (T2.setTop (mkF m 13 #[.val (.int i1)] []))
  obtain ⟨T3, h3, X3, e3, E3, A3, D3, -, st3⟩ := newO X2 hx hZ hown (hw _ (List.mem_of_getElem? (i := 46) rfl)) (hw _ (List.mem_of_getElem? (i := 47) rfl)) (hw _ (List.mem_of_getElem? (i := 39) rfl)) e2 (g := (mkF m 13 #[.val (.int i1)] [])) rfl (hb hby d5_13) (by decide) (by decide)
  obtain ⟨b3, g3⟩ : ∃ z, z = Array.size h0 := ⟨_, rfl⟩
  rw [show Array.size h0 = b3 from g3.symm] at A3 D3 st3
  have le_b3 : Array.size h0 ≤ b3 := Nat.le_of_eq g3.symm
  have sz_b3 : h0.size ≤ b3 := Nat.le_trans (Keep.refl h0 []).1 le_b3
  have g_b3 : n0 ≤ b3 := Nat.le_trans Z0 sz_b3
  have Z4 : n0 ≤ Array.size h3 := Nat.le_trans Z0 E3.1
  have KC4 : Keep h0 h3 [] := (Keep.refl h0 []).ext E3
  have F3_58 : Fld Z h3 b3 "java/lang/String" "value" "[B" .null := D3 (Or.inr (hw _ (List.mem_of_getElem? (i := 58) rfl))) (ty := (.array .byte)) (by decide)
  have F3_60 : Fld Z h3 b3 "java/lang/String" "coder" "B" (.int (0 : Int32)) := D3 (Or.inr (hw _ (List.mem_of_getElem? (i := 60) rfl))) (ty := .byte) (by decide)
  refine own_st st3 ?_
  show own_Fin p e below _ (T3.setTop (mkF m 16 #[.val (.int i1)] [(.ref b3)]))
  refine own_st (fun t k => XS.dup X3.here hx rfl (hb hby d5_16) rfl rfl k) ?_
  show own_Fin p e below _ (T3.setTop (mkF m 17 #[.val (.int i1)] [(.ref b3), (.ref b3)]))
  refine own_st (fun t k => XS.iloadN X3.here hx rfl (hb hby d5_17) rfl k) ?_
  show own_Fin p e below _ (T3.setTop (mkF m 18 #[.val (.int i1)] [(.int i1), (.ref b3), (.ref b3)]))
  obtain ⟨_, _, ⟨T5, L5, k5, n5⟩, -, X5, ⟨Lc5, hQ5, l5, y5, z5⟩, st5⟩ := Jvm.LawKit.callS X3 hx (y := (⟨"java/lang/StringLatin1", "toBytes", "(C)[B"⟩ : MethodName)) hown (mvT hZ (hw _ (List.mem_of_getElem? (i := 48) rfl))) (mvT hZ (hw _ (List.mem_of_getElem? (i := 49) rfl))) (mvT hZ (hw _ (List.mem_of_getElem? (i := 44) rfl))) (mvT hZ (hw _ (List.mem_of_getElem? (i := 50) rfl))) (by decide) (backOf (W := 2) (rm7_12 l Z a0 hw [] i1 h3 n0 Z4) hZ (hw _ (List.mem_of_getElem? (i := 50) rfl)) (hw _ (List.mem_of_getElem? (i := 44) rfl)) (by decide) (by decide)) (g := (mkF m 18 #[.val (.int i1)] [(.int i1), (.ref b3), (.ref b3)])) rfl (by rw [hml]; rfl) (argsL := [(.int i1)]) (rest := [(.ref b3), (.ref b3)]) (lenOf pd__C__B rfl) rfl (by show 2 * 0 + _ ≤ _; exact Nat.le_of_eq rfl) (hb hby d5_18) (fun _ _ => ⟨rfl, e3, (by decide : 1 + 1 ≤ _), (by decide : 4 + 1 ≤ _)⟩)
  dsimp only [Pt.U, Pt.locs, Pt.cells, Pt.slots] at X5 l5 y5 z5 st5 hQ5
  subst l5 y5 z5
  obtain ⟨b5_0, rfl, N5q, K5q, le_b5_0⟩ := hQ5
  have sz_b5_0 : h0.size ≤ b5_0 := Nat.le_trans KC4.1 le_b5_0
  have g_b5_0 : n0 ≤ b5_0 := Nat.le_trans Z0 sz_b5_0
  have Z6 : n0 ≤ Array.size T5.heap := Nat.le_trans Z4 K5q.1
  have KC6 : Keep h0 T5.heap [] := KC4.trans K5q all0
  have N5 := Fr.app N2 N5q
  refine own_st st5 ?_
  show own_Fin p e below _ (T5.setTop (mkF m 21 #[.val (.int i1)] [(.ref b5_0), (.ref b3), (.ref b3)]))
  refine own_st (fun t k => XS.iconst X5.here hx rfl (hb hby d5_21) k) ?_
  show own_Fin p e below _ (T5.setTop (mkF m 22 #[.val (.int i1)] [(.int (0 : Int32)), (.ref b5_0), (.ref b3), (.ref b3)]))
  have F8 : Fld Z T5.heap b3 "java/lang/String" "value" "[B" .null := (F3_58.keep K5q nin0)
  have F9 : Exa Z T5.heap b3 "java/lang/String" := (A3.keep K5q)
  have F10 : Fld Z T5.heap b3 "java/lang/String" "coder" "B" (.int (0 : Int32)) := (F3_60.keep K5q nin0)
  obtain ⟨_, _, ⟨T7, L7, k7, n7⟩, -, X7, ⟨Lc7, hQ7, l7, y7, z7⟩, st7⟩ := X5.specialBack hx (y := (⟨"java/lang/String", "<init>", "([BB)V"⟩ : MethodName)) rfl hown (mvT hZ (hw _ (List.mem_of_getElem? (i := 52) rfl))) (mvT hZ (hw _ (List.mem_of_getElem? (i := 53) rfl))) (mvT hZ (hw _ (List.mem_of_getElem? (i := 55) rfl))) (by decide) (backOf (W := 1) (rm8_13 l Z a0 hw [] b3 b5_0 T5.heap n0 Z6 F8 F9 g_b3 F10) hZ (hw _ (List.mem_of_getElem? (i := 55) rfl)) (hw _ (List.mem_of_getElem? (i := 39) rfl)) (by decide) (by decide)) (g := (mkF m 22 #[.val (.int i1)] [(.int (0 : Int32)), (.ref b5_0), (.ref b3), (.ref b3)])) rfl (by rw [hml]; rfl) (Steps.refl _) (a := b3) (argsL := [(.ref b5_0), (.int (0 : Int32))]) (rest := [(.ref b3)]) (lenOf pd___BB_V rfl) rfl (by show 2 * 0 + _ ≤ _; exact Nat.le_of_eq rfl) (hb hby d5_22) (fun _ _ => ⟨rfl, rfl, (by decide : 2 + 0 ≤ _), (by decide : 5 + 0 ≤ _)⟩)
  dsimp only [Pt.U, Pt.locs, Pt.cells, Pt.slots] at X7 l7 y7 z7 st7 hQ7
  subst l7 y7 z7
  obtain ⟨rfl, N7q, K7q, G7_0, G7_1⟩ := hQ7
  have Z11 : n0 ≤ Array.size T7.heap := Nat.le_trans Z6 K7q.1
  have KC11 : Keep h0 T7.heap [] := KC6.trans K7q (allS (Or.inr sz_b3) all0)
  have N7 := Fr.app N5 N7q
  refine own_tr st7 ?_
  show own_Fin p e below _ (T7.setTop (mkF m 25 #[.val (.int i1)] [(.ref b3)]))
  have F12 : Exa Z T7.heap b3 "java/lang/String" := (F9.keep K7q)
  have D13 : b3 ≠ b5_0 := (Nat.ne_of_lt (Nat.lt_of_lt_of_le A3.lt le_b5_0))
  obtain ⟨fs, hr, hrun, hended, hW, hsame⟩ := X7.leave (v := some (.ref b3)) (fun h => by rw [Bd.returns] at h; cases h)
  have hQf : Q5_14 Z i1 i2 h0 n0 _ T7.heap _ := ⟨b3, b5_0, rfl, N7, KC11, sz_b3, sz_b5_0, F12, G7_0, G7_1, D13⟩
  exact ⟨_, _, retOut X7 hx (t := (.object "java/lang/String")) Bd.returns rfl (Or.inr (Or.inr (Or.inr (Or.inr ⟨rfl, rfl, rfl⟩)))) (hb hby d5_25) hr, hrun, hended, _, _, rfl, hQf, ⟨_, rfl⟩, hW, hsame.mono (by decide) (by decide)⟩
theorem pd__C_Ljava_lang_String_ : parseMethodDescriptor "(C)Ljava/lang/String;" = some ⟨[.char], some (.object "java/lang/String")⟩ := by decide +kernel
set_option maxRecDepth 65536 in
set_option maxHeartbeats 40000000 in
theorem rm4_15 (l : Launch) (Z : State) (a0 : Array Value) (hw : ∀ d ∈ tables_1, d.before a0 Z = true) (ws : List Jvm.Cond) (a1 : Addr) (a2 : Addr) (h0 : Heap) (n0 : Nat) (Z0 : n0 ≤ Array.size h0) (P0 : Exa Z h0 a2 "java/lang/String") :
    MetFree l (⟨"com/example/deioces/deioces/Message", "equals", "(Ljava/lang/Object;)Z"⟩ : MethodName) (head1 (Jvm.Cond.code (⟨"com/example/deioces/deioces/Message", "equals", "(Ljava/lang/Object;)Z"⟩ : MethodName) prog_30_method_10_code 3 (some .boolean) :: ws) ({ frames := 0, cells := 0, slots := 0, locals := 0 } : Room)) (fun a U => a = #[(.ref a1), (.ref a2)] ∧ Z.Warmed39 U.vm ∧ U.heap = h0) (fun _ _ _ _ _ => True) (fun _ U o U' => ∃ v L, o = .returned v ∧ own_Q h0 n0 (some (.int (0 : Int32))) v U'.heap L ∧ FrameEnd U o U' L ({ frames := 0, cells := 0, slots := 0, locals := 0 } : Room).cells ({ frames := 0, cells := 0, slots := 0, locals := 0 } : Room).slots) := by
  refine MetFree.of_bodySF (plainFor_of_name pn_com_example_deioces_deioces_Message) hisR ?_
  intro p e s m args below meth c s₁ Bd hml0 hP hK
  obtain ⟨rfl, hZ, hh⟩ := hP
  have hx := Bd.exec
  have hby := Bd.bytes
  have hml : c.maxLocals = 3 := hml0
  have hown : s.vm.findClass "com/example/deioces/deioces/Message" = some m.cls := findClass_of_methodNamed Bd.named
  have hnm := (name_of_methodNamed Bd.named Bd.method).1
  have X0 : Stand p l e ({ frames := 0, cells := 0, slots := 0, locals := 0 } : Room) s m #[(.ref a1), (.ref a2)] below meth c s₁ [] 0 0 := Stand.of_body Bd
  have e0 : s₁.heap = h0 := by rw [← hh, Bd.state]; rfl
  have N0 := Fr.nil n0
  refine (?_ : own_Fin p e below _ _)
  refine own_st (fun t k => castTop (ef_4_RR m a1 a2) k) ?_
  show own_Fin p e below _ (s₁.setTop (mkF m 0 #[.val (.ref a1), .val (.ref a2), .unset] []))
  refine own_st (fun t k => XS.aloadN X0.here hx rfl (hb hby d4_0) rfl rfl k) ?_
  show own_Fin p e below _ (s₁.setTop (mkF m 1 #[.val (.ref a1), .val (.ref a2), .unset] [(.ref a2)]))
  obtain ⟨T1, X1, e1, st1⟩ := instNo X0 hx hZ hown (hw _ (List.mem_of_getElem? (i := 29) rfl)) e0 P0 (own_no (hw _ (List.mem_of_getElem? (i := 61) rfl)) (hw _ (List.mem_of_getElem? (i := 62) rfl)) (hw _ (List.mem_of_getElem? (i := 1) rfl)) (by decide) (by decide)) (g := (mkF m 1 #[.val (.ref a1), .val (.ref a2), .unset] [(.ref a2)])) rfl rfl (hb hby d4_1)
  refine own_st st1 ?_
  show own_Fin p e below _ (T1.setTop (mkF m 4 #[.val (.ref a1), .val (.ref a2), .unset] [(.int (0 : Int32))]))
  refine own_st (fun t k => XS.ifNo X1.here hx rfl (hb hby d4_4) rfl (by decide) k) ?_
  show own_Fin p e below _ (T1.setTop (mkF m 7 #[.val (.ref a1), .val (.ref a2), .unset] []))
  refine own_st (fun t k => XS.iconst X1.here hx rfl (hb hby d4_7) k) ?_
  show own_Fin p e below _ (T1.setTop (mkF m 8 #[.val (.ref a1), .val (.ref a2), .unset] [(.int (0 : Int32))]))
  obtain ⟨fs, hr, hrun, hended, hW, hsame⟩ := X1.leave (v := some (.int (0 : Int32))) (fun h => by rw [Bd.returns] at h; cases h)
  exact ⟨_, _, retN X1 hx (t := .boolean) Bd.returns (by simp) (hb hby d4_8) hr, hrun, hended, _, _, rfl, ⟨rfl, N0, e1⟩, ⟨_, rfl⟩, hW, hsame.mono (by decide) (by decide)⟩
set_option maxRecDepth 65536 in
set_option maxHeartbeats 40000000 in
theorem rm4_16 (l : Launch) (Z : State) (a0 : Array Value) (hw : ∀ d ∈ tables_1, d.before a0 Z = true) (ws : List Jvm.Cond) (a1 : Addr) (a2 : Addr) (i3 : Int32) (j4 : Int64) (i5 : Int32) (h0 : Heap) (n0 : Nat) (Z0 : n0 ≤ Array.size h0) (P0 : Exa Z h0 a1 "com/example/deioces/deioces/Message") (P1 : Fld Z h0 a1 "com/example/deioces/deioces/Message" "kind" "Lcom/example/deioces/deioces/Message$Kind;" (.ref a2)) (P2 : Fld Z h0 a1 "com/example/deioces/deioces/Message" "sender" "I" (.int i3)) (P3 : Fld Z h0 a1 "com/example/deioces/deioces/Message" "stamp" "J" (.long j4)) (P4 : i5 = 0 ∨ i5 = 1) (P5 : Fld Z h0 a1 "com/example/deioces/deioces/Message" "supportive" "Z" (.int i5)) :
    MetFree l (⟨"com/example/deioces/deioces/Message", "equals", "(Ljava/lang/Object;)Z"⟩ : MethodName) (head1 (Jvm.Cond.code (⟨"com/example/deioces/deioces/Message", "equals", "(Ljava/lang/Object;)Z"⟩ : MethodName) prog_30_method_10_code 3 (some .boolean) :: ws) ({ frames := 0, cells := 0, slots := 0, locals := 0 } : Room)) (fun a U => a = #[(.ref a1), (.ref a1)] ∧ Z.Warmed39 U.vm ∧ U.heap = h0) (fun _ _ _ _ _ => True) (fun _ U o U' => ∃ v L, o = .returned v ∧ own_Q h0 n0 (some (.int (1 : Int32))) v U'.heap L ∧ FrameEnd U o U' L ({ frames := 0, cells := 0, slots := 0, locals := 0 } : Room).cells ({ frames := 0, cells := 0, slots := 0, locals := 0 } : Room).slots) := by
  refine MetFree.of_bodySF (plainFor_of_name pn_com_example_deioces_deioces_Message) hisR ?_
  intro p e s m args below meth c s₁ Bd hml0 hP hK
  obtain ⟨rfl, hZ, hh⟩ := hP
  have hx := Bd.exec
  have hby := Bd.bytes
  have hml : c.maxLocals = 3 := hml0
  have hown : s.vm.findClass "com/example/deioces/deioces/Message" = some m.cls := findClass_of_methodNamed Bd.named
  have hnm := (name_of_methodNamed Bd.named Bd.method).1
  have X0 : Stand p l e ({ frames := 0, cells := 0, slots := 0, locals := 0 } : Room) s m #[(.ref a1), (.ref a1)] below meth c s₁ [] 0 0 := Stand.of_body Bd
  have e0 : s₁.heap = h0 := by rw [← hh, Bd.state]; rfl
  have N0 := Fr.nil n0
  refine (?_ : own_Fin p e below _ _)
  refine own_st (fun t k => castTop (ef_4_RR m a1 a1) k) ?_
  show own_Fin p e below _ (s₁.setTop (mkF m 0 #[.val (.ref a1), .val (.ref a1), .unset] []))
  refine own_st (fun t k => XS.aloadN X0.here hx rfl (hb hby d4_0) rfl rfl k) ?_
  show own_Fin p e below _ (s₁.setTop (mkF m 1 #[.val (.ref a1), .val (.ref a1), .unset] [(.ref a1)]))
  obtain ⟨T1, X1, e1, st1⟩ := instY X0 hx hZ hown (hw _ (List.mem_of_getElem? (i := 29) rfl)) e0 (Ins.self P0) (g := (mkF m 1 #[.val (.ref a1), .val (.ref a1), .unset] [(.ref a1)])) rfl rfl (hb hby d4_1)
  refine own_st st1 ?_
  show own_Fin p e below _ (T1.setTop (mkF m 4 #[.val (.ref a1), .val (.ref a1), .unset] [(.int (1 : Int32))]))
  refine own_st (fun t k => XS.ifYes X1.here hx rfl (pc0 := 4) (pc' := 9) rfl (hb hby d4_4) rfl (by decide) (by decide) (by decide) k) ?_
  show own_Fin p e below _ (T1.setTop (mkF m 9 #[.val (.ref a1), .val (.ref a1), .unset] []))
  refine own_st (fun t k => XS.aloadN X1.here hx rfl (hb hby d4_9) rfl rfl k) ?_
  show own_Fin p e below _ (T1.setTop (mkF m 10 #[.val (.ref a1), .val (.ref a1), .unset] [(.ref a1)]))
  obtain ⟨T2, X2, e2, st2⟩ := castY X1 hx hZ hown (hw _ (List.mem_of_getElem? (i := 29) rfl)) e1 (Ins.self P0) (g := (mkF m 10 #[.val (.ref a1), .val (.ref a1), .unset] [(.ref a1)])) rfl rfl (hb hby d4_10)
  refine own_st st2 ?_
  show own_Fin p e below _ (T2.setTop (mkF m 13 #[.val (.ref a1), .val (.ref a1), .unset] [(.ref a1)]))
  refine own_st (fun t k => XS.astoreN X2.here hx rfl (hb hby d4_13) rfl rfl (l' := #[.val (.ref a1), .val (.ref a1), .val (.ref a1)]) rfl k) ?_
  show own_Fin p e below _ (T2.setTop (mkF m 14 #[.val (.ref a1), .val (.ref a1), .val (.ref a1)] []))
  refine own_st (fun t k => XS.aloadN X2.here hx rfl (hb hby d4_14) rfl rfl k) ?_
  show own_Fin p e below _ (T2.setTop (mkF m 15 #[.val (.ref a1), .val (.ref a1), .val (.ref a1)] [(.ref a1)]))
  obtain ⟨T3, X3, e3, st3⟩ := getF X2 hx hZ hown (host := "") (Or.inl (hw _ (List.mem_of_getElem? (i := 16) rfl))) Via.refl e2 P1 (g := (mkF m 15 #[.val (.ref a1), .val (.ref a1), .val (.ref a1)] [(.ref a1)])) rfl rfl (hb hby d4_15)
  refine own_st st3 ?_
  show own_Fin p e below _ (T3.setTop (mkF m 18 #[.val (.ref a1), .val (.ref a1), .val (.ref a1)] [(.ref a2)]))
  refine own_st (fun t k => XS.aloadN X3.here hx rfl (hb hby d4_18) rfl rfl k) ?_
  show own_Fin p e below _ (T3.setTop (mkF m 19 #[.val (.ref a1), .val (.ref a1), .val (.ref a1)] [(.ref a1), (.ref a2)]))
  obtain ⟨T4, X4, e4, st4⟩ := getF X3 hx hZ hown (host := "") (Or.inl (hw _ (List.mem_of_getElem? (i := 16) rfl))) Via.refl e3 P1 (g := (mkF m 19 #[.val (.ref a1), .val (.ref a1), .val (.ref a1)] [(.ref a1), (.ref a2)])) rfl rfl (hb hby d4_19)
  refine own_st st4 ?_
  show own_Fin p e below _ (T4.setTop (mkF m 22 #[.val (.ref a1), .val (.ref a1), .val (.ref a1)] [(.ref a2), (.ref a2)]))
  refine own_st (fun t k => Jvm.RoadKit.acmp (g := (mkF m 22 #[.val (.ref a1), .val (.ref a1), .val (.ref a1)] [(.ref a2), (.ref a2)])) X4 hx rfl rfl rfl (pc0 := 22) (pc' := 25) (same := true) rfl (hb hby d4_22) rfl (decide_eq_true rfl) (by decide) (by decide) k) ?_
  show own_Fin p e below _ (T4.setTop (mkF m 25 #[.val (.ref a1), .val (.ref a1), .val (.ref a1)] []))
  refine own_st (fun t k => XS.aloadN X4.here hx rfl (hb hby d4_25) rfl rfl k) ?_
  show own_Fin p e below _ (T4.setTop (mkF m 26 #[.val (.ref a1), .val (.ref a1), .val (.ref a1)] [(.ref a1)]))
  obtain ⟨T5, X5, e5, st5⟩ := getF X4 hx hZ hown (host := "") (Or.inl (hw _ (List.mem_of_getElem? (i := 18) rfl))) Via.refl e4 P2 (g := (mkF m 26 #[.val (.ref a1), .val (.ref a1), .val (.ref a1)] [(.ref a1)])) rfl rfl (hb hby d4_26)
  refine own_st st5 ?_
  show own_Fin p e below _ (T5.setTop (mkF m 29 #[.val (.ref a1), .val (.ref a1), .val (.ref a1)] [(.int i3)]))
  refine own_st (fun t k => XS.aloadN X5.here hx rfl (hb hby d4_29) rfl rfl k) ?_
  show own_Fin p e below _ (T5.setTop (mkF m 30 #[.val (.ref a1), .val (.ref a1), .val (.ref a1)] [(.ref a1), (.int i3)]))
  obtain ⟨T6, X6, e6, st6⟩ := getF X5 hx hZ hown (host := "") (Or.inl (hw _ (List.mem_of_getElem? (i := 18) rfl))) Via.refl e5 P2 (g := (mkF m 30 #[.val (.ref a1), .val (.ref a1), .val (.ref a1)] [(.ref a1), (.int i3)])) rfl rfl (hb hby d4_30)
  refine own_st st6 ?_
  show own_Fin p e below _ (T6.setTop (mkF m 33 #[.val (.ref a1), .val (.ref a1), .val (.ref a1)] [(.int i3), (.int i3)]))
  refine own_st (fun t k => XS.icmpNo X6.here hx rfl (hb hby d4_33) rfl (teq rfl).2 k) ?_
  show own_Fin p e below _ (T6.setTop (mkF m 36 #[.val (.ref a1), .val (.ref a1), .val (.ref a1)] []))
  refine own_st (fun t k => XS.aloadN X6.here hx rfl (hb hby d4_36) rfl rfl k) ?_
  show own_Fin p e below _ (T6.setTop (mkF m 37 #[.val (.ref a1), .val (.ref a1), .val (.ref a1)] [(.ref a1)]))
  obtain ⟨T7, X7, e7, st7⟩ := getF X6 hx hZ hown (host := "") (Or.inl (hw _ (List.mem_of_getElem? (i := 20) rfl))) Via.refl e6 P3 (g := (mkF m 37 #[.val (.ref a1), .val (.ref a1), .val (.ref a1)] [(.ref a1)])) rfl rfl (hb hby d4_37)
  refine own_st st7 ?_
  show own_Fin p e below _ (T7.setTop (mkF m 40 #[.val (.ref a1), .val (.ref a1), .val (.ref a1)] [(.long j4)]))
  refine own_st (fun t k => XS.aloadN X7.here hx rfl (hb hby d4_40) rfl rfl k) ?_
  show own_Fin p e below _ (T7.setTop (mkF m 41 #[.val (.ref a1), .val (.ref a1), .val (.ref a1)] [(.ref a1), (.long j4)]))
  obtain ⟨T8, X8, e8, st8⟩ := getF X7 hx hZ hown (host := "") (Or.inl (hw _ (List.mem_of_getElem? (i := 20) rfl))) Via.refl e7 P3 (g := (mkF m 41 #[.val (.ref a1), .val (.ref a1), .val (.ref a1)] [(.ref a1), (.long j4)])) rfl rfl (hb hby d4_41)
  refine own_st st8 ?_
  show own_Fin p e below _ (T8.setTop (mkF m 44 #[.val (.ref a1), .val (.ref a1), .val (.ref a1)] [(.long j4), (.long j4)]))
  refine own_st (fun t k => XS.lcmp X8.here hx rfl (hb hby d4_44) rfl k) ?_
  show own_Fin p e below _ (T8.setTop (mkF m 45 #[.val (.ref a1), .val (.ref a1), .val (.ref a1)] [(.int (lcmpW j4 j4))]))
  refine own_st (fun t k => XS.ifNo X8.here hx rfl (hb hby d4_45) rfl ((if0 _ _).trans (teq ((lw_eq j4 j4).2 rfl)).2) k) ?_
  show own_Fin p e below _ (T8.setTop (mkF m 48 #[.val (.ref a1), .val (.ref a1), .val (.ref a1)] []))
  refine own_st (fun t k => XS.aloadN X8.here hx rfl (hb hby d4_48) rfl rfl k) ?_
  show own_Fin p e below _ (T8.setTop (mkF m 49 #[.val (.ref a1), .val (.ref a1), .val (.ref a1)] [(.ref a1)]))
  obtain ⟨T9, X9, e9, st9⟩ := getF X8 hx hZ hown (host := "") (Or.inl (hw _ (List.mem_of_getElem? (i := 22) rfl))) Via.refl e8 P5 (g := (mkF m 49 #[.val (.ref a1), .val (.ref a1), .val (.ref a1)] [(.ref a1)])) rfl rfl (hb hby d4_49)
  refine own_st st9 ?_
  show own_Fin p e below _ (T9.setTop (mkF m 52 #[.val (.ref a1), .val (.ref a1), .val (.ref a1)] [(.int i5)]))
  refine own_st (fun t k => XS.aloadN X9.here hx rfl (hb hby d4_52) rfl rfl k) ?_
  show own_Fin p e below _ (T9.setTop (mkF m 53 #[.val (.ref a1), .val (.ref a1), .val (.ref a1)] [(.ref a1), (.int i5)]))
  obtain ⟨T10, X10, e10, st10⟩ := getF X9 hx hZ hown (host := "") (Or.inl (hw _ (List.mem_of_getElem? (i := 22) rfl))) Via.refl e9 P5 (g := (mkF m 53 #[.val (.ref a1), .val (.ref a1), .val (.ref a1)] [(.ref a1), (.int i5)])) rfl rfl (hb hby d4_53)
  refine own_st st10 ?_
  show own_Fin p e below _ (T10.setTop (mkF m 56 #[.val (.ref a1), .val (.ref a1), .val (.ref a1)] [(.int i5), (.int i5)]))
  refine own_st (fun t k => XS.icmpNo X10.here hx rfl (hb hby d4_56) rfl (teq rfl).2 k) ?_
  show own_Fin p e below _ (T10.setTop (mkF m 59 #[.val (.ref a1), .val (.ref a1), .val (.ref a1)] []))
  refine own_st (fun t k => XS.iconst X10.here hx rfl (hb hby d4_59) k) ?_
  show own_Fin p e below _ (T10.setTop (mkF m 60 #[.val (.ref a1), .val (.ref a1), .val (.ref a1)] [(.int (1 : Int32))]))
  refine own_st (fun t k => XS.goto X10.here hx rfl (pc0 := 60) (pc' := 64) rfl (hb hby d4_60) (by decide) (by decide) k) ?_
  show own_Fin p e below _ (T10.setTop (mkF m 64 #[.val (.ref a1), .val (.ref a1), .val (.ref a1)] [(.int (1 : Int32))]))
  obtain ⟨fs, hr, hrun, hended, hW, hsame⟩ := X10.leave (v := some (.int (1 : Int32))) (fun h => by rw [Bd.returns] at h; cases h)
  exact ⟨_, _, retN X10 hx (t := .boolean) Bd.returns (by simp) (hb hby d4_64) hr, hrun, hended, _, _, rfl, ⟨rfl, N0, e10⟩, ⟨_, rfl⟩, hW, hsame.mono (by decide) (by decide)⟩
theorem ef_0_IIIJJI (m : MethodId) (x0 : Int32) (x1 : Int32) (x2 : Int32) (x3 : Int64) (x4 : Int64) (x5 : Int32) : entryFrame m #[(.int x0), (.int x1), (.int x2), (.long x3), (.long x4), (.int x5)] maxLocals = mkF m 0 #[.val (.int x0), .val (.int x1), .val (.int x2), .val (.long x3), .second, .val (.long x4), .second, .val (.int x5), .unset, .unset, .unset, .unset, .unset, .unset, .unset, .unset, .unset, .unset, .unset, .unset, .unset, .unset, .unset] [] := by first | (simp [entryFrame, mkF, argsToLocals, Value.category, maxLocals]; done) | rfl
set_option maxRecDepth 65536 in
set_option maxHeartbeats 40000000 in
theorem rm0_c (l : Launch) (Z : State) (a0 : Array Value) (hw : ∀ d ∈ tables_1, d.before a0 Z = true) (ws : List Jvm.Cond) (w_ELECTION : Addr) (w_HEARTBEAT : Addr) (w_RELEASE : Addr) (w_REPLY : Addr) (cs : Int32) (p0 : Int32) (p1 : Int32) (p2 : Int32) (p3 : Int64) (p4 : Int64) (p5 : Int32) (h0 : Heap) (n0 : Nat) (Z0 : n0 ≤ Array.size h0) (PN : own_Pins Z h0 w_ELECTION w_HEARTBEAT w_RELEASE w_REPLY cs) :
    MetFree l x (head1 (Jvm.Cond.code x code maxLocals ret :: ws) room_1) (fun a U => a = #[(.int p0), (.int p1), (.int p2), (.long p3), (.long p4), (.int p5)] ∧ Z.Warmed39 U.vm ∧ U.heap = h0) (fun _ _ _ _ _ => True) (fun _ U o U' => ∃ v L, o = .returned v ∧ own_Q0 n0 (some (.int (1 : Int32))) v U'.heap L ∧ FrameEnd U o U' L room_1.cells room_1.slots) := by
  refine MetFree.of_bodySF (plainFor_of_name pn_com_example_deioces_deioces_MessageEqualsPinLaw) hisR ?_
  intro p e s m args below meth c s₁ Bd hml0 hP hK
  obtain ⟨rfl, hZ, hh⟩ := hP
  have hx := Bd.exec
  have hby := Bd.bytes
  have hml : c.maxLocals = 23 := hml0
  have hown : s.vm.findClass "com/example/deioces/deioces/MessageEqualsPinLaw" = some m.cls := findClass_of_methodNamed Bd.named
  have hnm := (name_of_methodNamed Bd.named Bd.method).1
  have X0 : Stand p l e room_1 s m #[(.int p0), (.int p1), (.int p2), (.long p3), (.long p4), (.int p5)] below meth c s₁ [] 0 0 := Stand.of_body Bd
  have e0 : s₁.heap = h0 := by rw [← hh, Bd.state]; rfl
  have N0 := Fr.nil n0
  obtain ⟨S_ELECTION, E_ELECTION, S_HEARTBEAT, E_HEARTBEAT, S_RELEASE, E_RELEASE, S_REPLY, E_REPLY, F_REPLY_ordinal, F_ELECTION_ordinal, F_RELEASE_ordinal, F_HEARTBEAT_ordinal, S_CS, D_CS⟩ := PN
  refine (?_ : own_Fin p e below _ _)
  refine own_st (fun t k => castTop (ef_0_IIIJJI m p0 p1 p2 p3 p4 p5) k) ?_
  show own_Fin p e below (own_K0 s n0) _
  show own_Fin p e below _ (s₁.setTop (mkF m 0 #[.val (.int p0), .val (.int p1), .val (.int p2), .val (.long p3), .second, .val (.long p4), .second, .val (.int p5), .unset, .unset, .unset, .unset, .unset, .unset, .unset, .unset, .unset, .unset, .unset, .unset, .unset, .unset, .unset] []))
  refine own_st (fun t k => XS.iloadN X0.here hx rfl (hb hby at_0) rfl k) ?_
  show own_Fin p e below _ (s₁.setTop (mkF m 1 #[.val (.int p0), .val (.int p1), .val (.int p2), .val (.long p3), .second, .val (.long p4), .second, .val (.int p5), .unset, .unset, .unset, .unset, .unset, .unset, .unset, .unset, .unset, .unset, .unset, .unset, .unset, .unset, .unset] [(.int p0)]))
  refine own_st (fun t k => XS.iconst X0.here hx rfl (hb hby at_1) k) ?_
  show own_Fin p e below _ (s₁.setTop (mkF m 2 #[.val (.int p0), .val (.int p1), .val (.int p2), .val (.long p3), .second, .val (.long p4), .second, .val (.int p5), .unset, .unset, .unset, .unset, .unset, .unset, .unset, .unset, .unset, .unset, .unset, .unset, .unset, .unset, .unset] [(.int (3 : Int32)), (.int p0)]))
  refine own_st (fun t k => XS.iand X0.here hx rfl (hb hby at_2) rfl k) ?_
  show own_Fin p e below _ (s₁.setTop (mkF m 3 #[.val (.int p0), .val (.int p1), .val (.int p2), .val (.long p3), .second, .val (.long p4), .second, .val (.int p5), .unset, .unset, .unset, .unset, .unset, .unset, .unset, .unset, .unset, .unset, .unset, .unset, .unset, .unset, .unset] [(.int (p0 &&& (3 : Int32)))]))
  refine own_st (fun t k => XS.istore X0.here hx rfl (hb hby at_3) rfl (l' := #[.val (.int p0), .val (.int p1), .val (.int p2), .val (.long p3), .second, .val (.long p4), .second, .val (.int p5), .val (.int (p0 &&& (3 : Int32))), .unset, .unset, .unset, .unset, .unset, .unset, .unset, .unset, .unset, .unset, .unset, .unset, .unset, .unset]) rfl k) ?_
  show own_Fin p e below _ (s₁.setTop (mkF m 5 #[.val (.int p0), .val (.int p1), .val (.int p2), .val (.long p3), .second, .val (.long p4), .second, .val (.int p5), .val (.int (p0 &&& (3 : Int32))), .unset, .unset, .unset, .unset, .unset, .unset, .unset, .unset, .unset, .unset, .unset, .unset, .unset, .unset] []))
  refine own_st (fun t k => XS.iload X0.here hx rfl (hb hby at_5) rfl k) ?_
  show own_Fin p e below _ (s₁.setTop (mkF m 7 #[.val (.int p0), .val (.int p1), .val (.int p2), .val (.long p3), .second, .val (.long p4), .second, .val (.int p5), .val (.int (p0 &&& (3 : Int32))), .unset, .unset, .unset, .unset, .unset, .unset, .unset, .unset, .unset, .unset, .unset, .unset, .unset, .unset] [(.int p5)]))
  refine own_st (fun t k => XS.iconst X0.here hx rfl (hb hby at_7) k) ?_
  show own_Fin p e below _ (s₁.setTop (mkF m 8 #[.val (.int p0), .val (.int p1), .val (.int p2), .val (.long p3), .second, .val (.long p4), .second, .val (.int p5), .val (.int (p0 &&& (3 : Int32))), .unset, .unset, .unset, .unset, .unset, .unset, .unset, .unset, .unset, .unset, .unset, .unset, .unset, .unset] [(.int (1 : Int32)), (.int p5)]))
  refine own_st (fun t k => XS.iand X0.here hx rfl (hb hby at_8) rfl k) ?_
  show own_Fin p e below _ (s₁.setTop (mkF m 9 #[.val (.int p0), .val (.int p1), .val (.int p2), .val (.long p3), .second, .val (.long p4), .second, .val (.int p5), .val (.int (p0 &&& (3 : Int32))), .unset, .unset, .unset, .unset, .unset, .unset, .unset, .unset, .unset, .unset, .unset, .unset, .unset, .unset] [(.int (p5 &&& (1 : Int32)))]))
  have J22 : ∀ (kb : Int32) (hkb : kb = 0 ∨ kb = 1 ∨ kb = 2 ∨ kb = 3), own_Fin p e below (own_K0 s n0) (s₁.setTop (mkF m 22 #[.val (.int p0), .val (.int p1), .val (.int p2), .val (.long p3), .second, .val (.long p4), .second, .val (.int p5), .val (.int (p0 &&& (3 : Int32))), .unset, .unset, .unset, .unset, .unset, .unset, .unset, .unset, .unset, .unset, .unset, .unset, .unset, .unset] [(.int kb)])) := by
    intro kb hkb
    refine own_st (fun t k => XS.istore X0.here hx rfl (hb hby at_22) rfl (l' := #[.val (.int p0), .val (.int p1), .val (.int p2), .val (.long p3), .second, .val (.long p4), .second, .val (.int p5), .val (.int (p0 &&& (3 : Int32))), .val (.int kb), .unset, .unset, .unset, .unset, .unset, .unset, .unset, .unset, .unset, .unset, .unset, .unset, .unset]) rfl k) ?_
    show own_Fin p e below _ (s₁.setTop (mkF m 24 #[.val (.int p0), .val (.int p1), .val (.int p2), .val (.long p3), .second, .val (.long p4), .second, .val (.int p5), .val (.int (p0 &&& (3 : Int32))), .val (.int kb), .unset, .unset, .unset, .unset, .unset, .unset, .unset, .unset, .unset, .unset, .unset, .unset, .unset] []))
    refine own_st (fun t k => XS.iloadN X0.here hx rfl (hb hby at_24) rfl k) ?_
    show own_Fin p e below _ (s₁.setTop (mkF m 25 #[.val (.int p0), .val (.int p1), .val (.int p2), .val (.long p3), .second, .val (.long p4), .second, .val (.int p5), .val (.int (p0 &&& (3 : Int32))), .val (.int kb), .unset, .unset, .unset, .unset, .unset, .unset, .unset, .unset, .unset, .unset, .unset, .unset, .unset] [(.int p0)]))
    refine own_st (fun t k => XS.iconst X0.here hx rfl (hb hby at_25) k) ?_
    show own_Fin p e below _ (s₁.setTop (mkF m 26 #[.val (.int p0), .val (.int p1), .val (.int p2), .val (.long p3), .second, .val (.long p4), .second, .val (.int p5), .val (.int (p0 &&& (3 : Int32))), .val (.int kb), .unset, .unset, .unset, .unset, .unset, .unset, .unset, .unset, .unset, .unset, .unset, .unset, .unset] [(.int (4 : Int32)), (.int p0)]))
    refine own_st (fun t k => XS.iushr X0.here hx rfl (hb hby at_26) rfl k) ?_
    show own_Fin p e below _ (s₁.setTop (mkF m 27 #[.val (.int p0), .val (.int p1), .val (.int p2), .val (.long p3), .second, .val (.long p4), .second, .val (.int p5), .val (.int (p0 &&& (3 : Int32))), .val (.int kb), .unset, .unset, .unset, .unset, .unset, .unset, .unset, .unset, .unset, .unset, .unset, .unset, .unset] [(.int ((p0.toUInt32 >>> ((4 : Int32) &&& 31).toUInt32).toInt32))]))
    refine own_st (fun t k => XS.iconst X0.here hx rfl (hb hby at_27) k) ?_
    show own_Fin p e below _ (s₁.setTop (mkF m 28 #[.val (.int p0), .val (.int p1), .val (.int p2), .val (.long p3), .second, .val (.long p4), .second, .val (.int p5), .val (.int (p0 &&& (3 : Int32))), .val (.int kb), .unset, .unset, .unset, .unset, .unset, .unset, .unset, .unset, .unset, .unset, .unset, .unset, .unset] [(.int (1 : Int32)), (.int ((p0.toUInt32 >>> ((4 : Int32) &&& 31).toUInt32).toInt32))]))
    refine own_st (fun t k => XS.iand X0.here hx rfl (hb hby at_28) rfl k) ?_
    show own_Fin p e below _ (s₁.setTop (mkF m 29 #[.val (.int p0), .val (.int p1), .val (.int p2), .val (.long p3), .second, .val (.long p4), .second, .val (.int p5), .val (.int (p0 &&& (3 : Int32))), .val (.int kb), .unset, .unset, .unset, .unset, .unset, .unset, .unset, .unset, .unset, .unset, .unset, .unset, .unset] [(.int (((p0.toUInt32 >>> ((4 : Int32) &&& 31).toUInt32).toInt32) &&& (1 : Int32)))]))
    have J37 : ∀ (fa : Int32) (hfa : fa = 0 ∨ fa = 1), own_Fin p e below (own_K0 s n0) (s₁.setTop (mkF m 37 #[.val (.int p0), .val (.int p1), .val (.int p2), .val (.long p3), .second, .val (.long p4), .second, .val (.int p5), .val (.int (p0 &&& (3 : Int32))), .val (.int kb), .unset, .unset, .unset, .unset, .unset, .unset, .unset, .unset, .unset, .unset, .unset, .unset, .unset] [(.int fa)])) := by
      intro fa hfa
      refine own_st (fun t k => XS.istore X0.here hx rfl (hb hby at_37) rfl (l' := #[.val (.int p0), .val (.int p1), .val (.int p2), .val (.long p3), .second, .val (.long p4), .second, .val (.int p5), .val (.int (p0 &&& (3 : Int32))), .val (.int kb), .val (.int fa), .unset, .unset, .unset, .unset, .unset, .unset, .unset, .unset, .unset, .unset, .unset, .unset]) rfl k) ?_
      show own_Fin p e below _ (s₁.setTop (mkF m 39 #[.val (.int p0), .val (.int p1), .val (.int p2), .val (.long p3), .second, .val (.long p4), .second, .val (.int p5), .val (.int (p0 &&& (3 : Int32))), .val (.int kb), .val (.int fa), .unset, .unset, .unset, .unset, .unset, .unset, .unset, .unset, .unset, .unset, .unset, .unset] []))
      refine own_st (fun t k => XS.iload X0.here hx rfl (hb hby at_39) rfl k) ?_
      show own_Fin p e below _ (s₁.setTop (mkF m 41 #[.val (.int p0), .val (.int p1), .val (.int p2), .val (.long p3), .second, .val (.long p4), .second, .val (.int p5), .val (.int (p0 &&& (3 : Int32))), .val (.int kb), .val (.int fa), .unset, .unset, .unset, .unset, .unset, .unset, .unset, .unset, .unset, .unset, .unset, .unset] [(.int p5)]))
      refine own_st (fun t k => XS.iconst X0.here hx rfl (hb hby at_41) k) ?_
      show own_Fin p e below _ (s₁.setTop (mkF m 42 #[.val (.int p0), .val (.int p1), .val (.int p2), .val (.long p3), .second, .val (.long p4), .second, .val (.int p5), .val (.int (p0 &&& (3 : Int32))), .val (.int kb), .val (.int fa), .unset, .unset, .unset, .unset, .unset, .unset, .unset, .unset, .unset, .unset, .unset, .unset] [(.int (2 : Int32)), (.int p5)]))
      refine own_st (fun t k => XS.iand X0.here hx rfl (hb hby at_42) rfl k) ?_
      show own_Fin p e below _ (s₁.setTop (mkF m 43 #[.val (.int p0), .val (.int p1), .val (.int p2), .val (.long p3), .second, .val (.long p4), .second, .val (.int p5), .val (.int (p0 &&& (3 : Int32))), .val (.int kb), .val (.int fa), .unset, .unset, .unset, .unset, .unset, .unset, .unset, .unset, .unset, .unset, .unset, .unset] [(.int (p5 &&& (2 : Int32)))]))
      have J64 : ∀ (fb : Int32) (hfb : fb = 0 ∨ fb = 1), own_Fin p e below (own_K0 s n0) (s₁.setTop (mkF m 64 #[.val (.int p0), .val (.int p1), .val (.int p2), .val (.long p3), .second, .val (.long p4), .second, .val (.int p5), .val (.int (p0 &&& (3 : Int32))), .val (.int kb), .val (.int fa), .unset, .unset, .unset, .unset, .unset, .unset, .unset, .unset, .unset, .unset, .unset, .unset] [(.int fb)])) := by
        intro fb hfb
        refine own_st (fun t k => XS.istore X0.here hx rfl (hb hby at_64) rfl (l' := #[.val (.int p0), .val (.int p1), .val (.int p2), .val (.long p3), .second, .val (.long p4), .second, .val (.int p5), .val (.int (p0 &&& (3 : Int32))), .val (.int kb), .val (.int fa), .val (.int fb), .unset, .unset, .unset, .unset, .unset, .unset, .unset, .unset, .unset, .unset, .unset]) rfl k) ?_
        show own_Fin p e below _ (s₁.setTop (mkF m 66 #[.val (.int p0), .val (.int p1), .val (.int p2), .val (.long p3), .second, .val (.long p4), .second, .val (.int p5), .val (.int (p0 &&& (3 : Int32))), .val (.int kb), .val (.int fa), .val (.int fb), .unset, .unset, .unset, .unset, .unset, .unset, .unset, .unset, .unset, .unset, .unset] []))
        refine own_st (fun t k => XS.iload X0.here hx rfl (hb hby at_66) rfl k) ?_
        show own_Fin p e below _ (s₁.setTop (mkF m 68 #[.val (.int p0), .val (.int p1), .val (.int p2), .val (.long p3), .second, .val (.long p4), .second, .val (.int p5), .val (.int (p0 &&& (3 : Int32))), .val (.int kb), .val (.int fa), .val (.int fb), .unset, .unset, .unset, .unset, .unset, .unset, .unset, .unset, .unset, .unset, .unset] [(.int p5)]))
        refine own_st (fun t k => XS.iconst X0.here hx rfl (hb hby at_68) k) ?_
        show own_Fin p e below _ (s₁.setTop (mkF m 69 #[.val (.int p0), .val (.int p1), .val (.int p2), .val (.long p3), .second, .val (.long p4), .second, .val (.int p5), .val (.int (p0 &&& (3 : Int32))), .val (.int kb), .val (.int fa), .val (.int fb), .unset, .unset, .unset, .unset, .unset, .unset, .unset, .unset, .unset, .unset, .unset] [(.int (4 : Int32)), (.int p5)]))
        refine own_st (fun t k => XS.iand X0.here hx rfl (hb hby at_69) rfl k) ?_
        show own_Fin p e below _ (s₁.setTop (mkF m 70 #[.val (.int p0), .val (.int p1), .val (.int p2), .val (.long p3), .second, .val (.long p4), .second, .val (.int p5), .val (.int (p0 &&& (3 : Int32))), .val (.int kb), .val (.int fa), .val (.int fb), .unset, .unset, .unset, .unset, .unset, .unset, .unset, .unset, .unset, .unset, .unset] [(.int (p5 &&& (4 : Int32)))]))
        have J78 : ∀ (sb : Int32) (hsb : True), own_Fin p e below (own_K0 s n0) (s₁.setTop (mkF m 78 #[.val (.int p0), .val (.int p1), .val (.int p2), .val (.long p3), .second, .val (.long p4), .second, .val (.int p5), .val (.int (p0 &&& (3 : Int32))), .val (.int kb), .val (.int fa), .val (.int fb), .unset, .unset, .unset, .unset, .unset, .unset, .unset, .unset, .unset, .unset, .unset] [(.int sb)])) := by
          intro sb hsb
          refine own_st (fun t k => XS.istore X0.here hx rfl (hb hby at_78) rfl (l' := #[.val (.int p0), .val (.int p1), .val (.int p2), .val (.long p3), .second, .val (.long p4), .second, .val (.int p5), .val (.int (p0 &&& (3 : Int32))), .val (.int kb), .val (.int fa), .val (.int fb), .val (.int sb), .unset, .unset, .unset, .unset, .unset, .unset, .unset, .unset, .unset, .unset]) rfl k) ?_
          show own_Fin p e below _ (s₁.setTop (mkF m 80 #[.val (.int p0), .val (.int p1), .val (.int p2), .val (.long p3), .second, .val (.long p4), .second, .val (.int p5), .val (.int (p0 &&& (3 : Int32))), .val (.int kb), .val (.int fa), .val (.int fb), .val (.int sb), .unset, .unset, .unset, .unset, .unset, .unset, .unset, .unset, .unset, .unset] []))
          refine own_st (fun t k => XS.iload X0.here hx rfl (hb hby at_80) rfl k) ?_
          show own_Fin p e below _ (s₁.setTop (mkF m 82 #[.val (.int p0), .val (.int p1), .val (.int p2), .val (.long p3), .second, .val (.long p4), .second, .val (.int p5), .val (.int (p0 &&& (3 : Int32))), .val (.int kb), .val (.int fa), .val (.int fb), .val (.int sb), .unset, .unset, .unset, .unset, .unset, .unset, .unset, .unset, .unset, .unset] [(.int p5)]))
          refine own_st (fun t k => XS.bipush X0.here hx rfl (hb hby at_82) k) ?_
          show own_Fin p e below _ (s₁.setTop (mkF m 84 #[.val (.int p0), .val (.int p1), .val (.int p2), .val (.long p3), .second, .val (.long p4), .second, .val (.int p5), .val (.int (p0 &&& (3 : Int32))), .val (.int kb), .val (.int fa), .val (.int fb), .val (.int sb), .unset, .unset, .unset, .unset, .unset, .unset, .unset, .unset, .unset, .unset] [(.int (8 : Int32)), (.int p5)]))
          refine own_st (fun t k => XS.iand X0.here hx rfl (hb hby at_84) rfl k) ?_
          show own_Fin p e below _ (s₁.setTop (mkF m 85 #[.val (.int p0), .val (.int p1), .val (.int p2), .val (.long p3), .second, .val (.long p4), .second, .val (.int p5), .val (.int (p0 &&& (3 : Int32))), .val (.int kb), .val (.int fa), .val (.int fb), .val (.int sb), .unset, .unset, .unset, .unset, .unset, .unset, .unset, .unset, .unset, .unset] [(.int (p5 &&& (8 : Int32)))]))
          have J94 : ∀ (tb : Int64) (htb : True), own_Fin p e below (own_K0 s n0) (s₁.setTop (mkF m 94 #[.val (.int p0), .val (.int p1), .val (.int p2), .val (.long p3), .second, .val (.long p4), .second, .val (.int p5), .val (.int (p0 &&& (3 : Int32))), .val (.int kb), .val (.int fa), .val (.int fb), .val (.int sb), .unset, .unset, .unset, .unset, .unset, .unset, .unset, .unset, .unset, .unset] [(.long tb)])) := by
            intro tb htb
            refine own_st (fun t k => XS.lstore X0.here hx rfl (hb hby at_94) rfl (l' := #[.val (.int p0), .val (.int p1), .val (.int p2), .val (.long p3), .second, .val (.long p4), .second, .val (.int p5), .val (.int (p0 &&& (3 : Int32))), .val (.int kb), .val (.int fa), .val (.int fb), .val (.int sb), .val (.long tb), .second, .unset, .unset, .unset, .unset, .unset, .unset, .unset, .unset]) rfl k) ?_
            show own_Fin p e below _ (s₁.setTop (mkF m 96 #[.val (.int p0), .val (.int p1), .val (.int p2), .val (.long p3), .second, .val (.long p4), .second, .val (.int p5), .val (.int (p0 &&& (3 : Int32))), .val (.int kb), .val (.int fa), .val (.int fb), .val (.int sb), .val (.long tb), .second, .unset, .unset, .unset, .unset, .unset, .unset, .unset, .unset] []))
            obtain ⟨T6, h6, X6, e6, E6, A6, D6, -, st6⟩ := newO X0 hx hZ hown (hw _ (List.mem_of_getElem? (i := 0) rfl)) (hw _ (List.mem_of_getElem? (i := 1) rfl)) (hw _ (List.mem_of_getElem? (i := 2) rfl)) e0 (g := (mkF m 96 #[.val (.int p0), .val (.int p1), .val (.int p2), .val (.long p3), .second, .val (.long p4), .second, .val (.int p5), .val (.int (p0 &&& (3 : Int32))), .val (.int kb), .val (.int fa), .val (.int fb), .val (.int sb), .val (.long tb), .second, .unset, .unset, .unset, .unset, .unset, .unset, .unset, .unset] [])) rfl (hb hby at_96) (by decide) (by decide)
            obtain ⟨b6, g6⟩ : ∃ z, z = Array.size h0 := ⟨_, rfl⟩
            rw [show Array.size h0 = b6 from g6.symm] at A6 D6 st6
            have le_b6 : Array.size h0 ≤ b6 := Nat.le_of_eq g6.symm
            have sz_b6 : h0.size ≤ b6 := Nat.le_trans (Keep.refl h0 []).1 le_b6
            have g_b6 : n0 ≤ b6 := Nat.le_trans Z0 sz_b6
            have Z7 : n0 ≤ Array.size h6 := Nat.le_trans Z0 E6.1
            have KC7 : Keep h0 h6 [] := (Keep.refl h0 []).ext E6
            have F6_17 : Fld Z h6 b6 "com/example/deioces/deioces/Message" "kind" "Lcom/example/deioces/deioces/Message$Kind;" .null := D6 (Or.inr (hw _ (List.mem_of_getElem? (i := 17) rfl))) (ty := (.object "com/example/deioces/deioces/Message$Kind")) (by decide)
            have F6_19 : Fld Z h6 b6 "com/example/deioces/deioces/Message" "sender" "I" (.int (0 : Int32)) := D6 (Or.inr (hw _ (List.mem_of_getElem? (i := 19) rfl))) (ty := .int) (by decide)
            have F6_21 : Fld Z h6 b6 "com/example/deioces/deioces/Message" "stamp" "J" (.long (0 : Int64)) := D6 (Or.inr (hw _ (List.mem_of_getElem? (i := 21) rfl))) (ty := .long) (by decide)
            have F6_23 : Fld Z h6 b6 "com/example/deioces/deioces/Message" "supportive" "Z" (.int (0 : Int32)) := D6 (Or.inr (hw _ (List.mem_of_getElem? (i := 23) rfl))) (ty := .boolean) (by decide)
            refine own_st st6 ?_
            show own_Fin p e below _ (T6.setTop (mkF m 99 #[.val (.int p0), .val (.int p1), .val (.int p2), .val (.long p3), .second, .val (.long p4), .second, .val (.int p5), .val (.int (p0 &&& (3 : Int32))), .val (.int kb), .val (.int fa), .val (.int fb), .val (.int sb), .val (.long tb), .second, .unset, .unset, .unset, .unset, .unset, .unset, .unset, .unset] [(.ref b6)]))
            refine own_st (fun t k => XS.dup X6.here hx rfl (hb hby at_99) rfl rfl k) ?_
            show own_Fin p e below _ (T6.setTop (mkF m 100 #[.val (.int p0), .val (.int p1), .val (.int p2), .val (.long p3), .second, .val (.long p4), .second, .val (.int p5), .val (.int (p0 &&& (3 : Int32))), .val (.int kb), .val (.int fa), .val (.int fb), .val (.int sb), .val (.long tb), .second, .unset, .unset, .unset, .unset, .unset, .unset, .unset, .unset] [(.ref b6), (.ref b6)]))
            refine own_st (fun t k => XS.iload X6.here hx rfl (hb hby at_100) rfl k) ?_
            show own_Fin p e below _ (T6.setTop (mkF m 102 #[.val (.int p0), .val (.int p1), .val (.int p2), .val (.long p3), .second, .val (.long p4), .second, .val (.int p5), .val (.int (p0 &&& (3 : Int32))), .val (.int kb), .val (.int fa), .val (.int fb), .val (.int sb), .val (.long tb), .second, .unset, .unset, .unset, .unset, .unset, .unset, .unset, .unset] [(.int (p0 &&& (3 : Int32))), (.ref b6), (.ref b6)]))
            have F9 : Sta Z h6 "com/example/deioces/deioces/Message$Kind" "ELECTION" "Lcom/example/deioces/deioces/Message$Kind;" (.ref w_ELECTION) := (S_ELECTION.ext E6)
            have F10 : Sta Z h6 "com/example/deioces/deioces/Message$Kind" "REPLY" "Lcom/example/deioces/deioces/Message$Kind;" (.ref w_REPLY) := (S_REPLY.ext E6)
            have F11 : Sta Z h6 "com/example/deioces/deioces/Message$Kind" "RELEASE" "Lcom/example/deioces/deioces/Message$Kind;" (.ref w_RELEASE) := (S_RELEASE.ext E6)
            have F12 : Sta Z h6 "com/example/deioces/deioces/Message$Kind" "HEARTBEAT" "Lcom/example/deioces/deioces/Message$Kind;" (.ref w_HEARTBEAT) := (S_HEARTBEAT.ext E6)
            obtain ⟨_, _, ⟨T8, L8, k8, n8⟩, -, X8, ⟨Lc8, hQ8, l8, y8, z8⟩, st8⟩ := Jvm.LawKit.callS X6 hx (y := (⟨"com/example/deioces/deioces/MessageEqualsPinLaw", "kindOf", "(I)Lcom/example/deioces/deioces/Message$Kind;"⟩ : MethodName)) hown (mvT hZ (hw _ (List.mem_of_getElem? (i := 3) rfl))) (mvT hZ (hw _ (List.mem_of_getElem? (i := 4) rfl))) (mvT hZ (hw _ (List.mem_of_getElem? (i := 5) rfl))) (mvT hZ (hw _ (List.mem_of_getElem? (i := 6) rfl))) (by decide) (backOf (W := 2) (rm1_1 l Z a0 hw [] (p0 &&& (3 : Int32)) w_ELECTION w_REPLY w_RELEASE w_HEARTBEAT h6 n0 Z7 F9 F10 F11 F12) hZ (hw _ (List.mem_of_getElem? (i := 6) rfl)) (hw _ (List.mem_of_getElem? (i := 5) rfl)) (by decide) (by decide)) (g := (mkF m 102 #[.val (.int p0), .val (.int p1), .val (.int p2), .val (.long p3), .second, .val (.long p4), .second, .val (.int p5), .val (.int (p0 &&& (3 : Int32))), .val (.int kb), .val (.int fa), .val (.int fb), .val (.int sb), .val (.long tb), .second, .unset, .unset, .unset, .unset, .unset, .unset, .unset, .unset] [(.int (p0 &&& (3 : Int32))), (.ref b6), (.ref b6)])) rfl (by rw [hml]; rfl) (argsL := [(.int (p0 &&& (3 : Int32)))]) (rest := [(.ref b6), (.ref b6)]) (lenOf pd__I_Lcom_example_deioces_deioces_Message_Kind_ rfl) rfl (by show 2 * 0 + _ ≤ _; exact Nat.le_of_eq rfl) (hb hby at_102) (fun _ _ => ⟨rfl, e6, (by decide : 1 + 0 ≤ _), (by decide : 4 + 0 ≤ _)⟩)
            dsimp only [Pt.U, Pt.locs, Pt.cells, Pt.slots] at X8 l8 y8 z8 st8 hQ8
            subst l8 y8 z8
            obtain ⟨rfl, N8q, e8⟩ := hQ8
            have N8 := Fr.app N0 N8q
            refine own_st st8 ?_
            show own_Fin p e below _ (T8.setTop (mkF m 105 #[.val (.int p0), .val (.int p1), .val (.int p2), .val (.long p3), .second, .val (.long p4), .second, .val (.int p5), .val (.int (p0 &&& (3 : Int32))), .val (.int kb), .val (.int fa), .val (.int fb), .val (.int sb), .val (.long tb), .second, .unset, .unset, .unset, .unset, .unset, .unset, .unset, .unset] [(.ref (own_kd (p0 &&& (3 : Int32)) w_ELECTION w_REPLY w_RELEASE w_HEARTBEAT)), (.ref b6), (.ref b6)]))
            refine own_st (fun t k => XS.iloadN X8.here hx rfl (hb hby at_105) rfl k) ?_
            show own_Fin p e below _ (T8.setTop (mkF m 106 #[.val (.int p0), .val (.int p1), .val (.int p2), .val (.long p3), .second, .val (.long p4), .second, .val (.int p5), .val (.int (p0 &&& (3 : Int32))), .val (.int kb), .val (.int fa), .val (.int fb), .val (.int sb), .val (.long tb), .second, .unset, .unset, .unset, .unset, .unset, .unset, .unset, .unset] [(.int p1), (.ref (own_kd (p0 &&& (3 : Int32)) w_ELECTION w_REPLY w_RELEASE w_HEARTBEAT)), (.ref b6), (.ref b6)]))
            refine own_st (fun t k => XS.lloadN X8.here hx rfl (hb hby at_106) rfl k) ?_
            show own_Fin p e below _ (T8.setTop (mkF m 107 #[.val (.int p0), .val (.int p1), .val (.int p2), .val (.long p3), .second, .val (.long p4), .second, .val (.int p5), .val (.int (p0 &&& (3 : Int32))), .val (.int kb), .val (.int fa), .val (.int fb), .val (.int sb), .val (.long tb), .second, .unset, .unset, .unset, .unset, .unset, .unset, .unset, .unset] [(.long p3), (.int p1), (.ref (own_kd (p0 &&& (3 : Int32)) w_ELECTION w_REPLY w_RELEASE w_HEARTBEAT)), (.ref b6), (.ref b6)]))
            refine own_st (fun t k => XS.iload X8.here hx rfl (hb hby at_107) rfl k) ?_
            show own_Fin p e below _ (T8.setTop (mkF m 109 #[.val (.int p0), .val (.int p1), .val (.int p2), .val (.long p3), .second, .val (.long p4), .second, .val (.int p5), .val (.int (p0 &&& (3 : Int32))), .val (.int kb), .val (.int fa), .val (.int fb), .val (.int sb), .val (.long tb), .second, .unset, .unset, .unset, .unset, .unset, .unset, .unset, .unset] [(.int fa), (.long p3), (.int p1), (.ref (own_kd (p0 &&& (3 : Int32)) w_ELECTION w_REPLY w_RELEASE w_HEARTBEAT)), (.ref b6), (.ref b6)]))
            obtain ⟨_, _, ⟨T13, L13, k13, n13⟩, -, X13, ⟨Lc13, hQ13, l13, y13, z13⟩, st13⟩ := X8.specialBack hx (y := (⟨"com/example/deioces/deioces/Message", "<init>", "(Lcom/example/deioces/deioces/Message$Kind;IJZ)V"⟩ : MethodName)) rfl hown (mvT hZ (hw _ (List.mem_of_getElem? (i := 10) rfl))) (mvT hZ (hw _ (List.mem_of_getElem? (i := 11) rfl))) (mvT hZ (hw _ (List.mem_of_getElem? (i := 12) rfl))) (by decide) (backOf (W := 1) (rm2_2 l Z a0 hw [] b6 (own_kd (p0 &&& (3 : Int32)) w_ELECTION w_REPLY w_RELEASE w_HEARTBEAT) p1 p3 fa h6 n0 Z7 hfa F6_17 A6 g_b6 F6_19 F6_21 F6_23) hZ (hw _ (List.mem_of_getElem? (i := 12) rfl)) (hw _ (List.mem_of_getElem? (i := 2) rfl)) (by decide) (by decide)) (g := (mkF m 109 #[.val (.int p0), .val (.int p1), .val (.int p2), .val (.long p3), .second, .val (.long p4), .second, .val (.int p5), .val (.int (p0 &&& (3 : Int32))), .val (.int kb), .val (.int fa), .val (.int fb), .val (.int sb), .val (.long tb), .second, .unset, .unset, .unset, .unset, .unset, .unset, .unset, .unset] [(.int fa), (.long p3), (.int p1), (.ref (own_kd (p0 &&& (3 : Int32)) w_ELECTION w_REPLY w_RELEASE w_HEARTBEAT)), (.ref b6), (.ref b6)])) rfl (by rw [hml]; rfl) (Steps.refl _) (a := b6) (argsL := [(.ref (own_kd (p0 &&& (3 : Int32)) w_ELECTION w_REPLY w_RELEASE w_HEARTBEAT)), (.int p1), (.long p3), (.int fa)]) (rest := [(.ref b6)]) (lenOf pd__Lcom_example_deioces_deioces_Message_Kind_IJZ_V rfl) rfl (by show 2 * 0 + _ ≤ _; exact Nat.le_of_eq rfl) (hb hby at_109) (fun _ _ => ⟨rfl, e8, (by decide : 1 + 0 ≤ _), (by decide : 4 + 0 ≤ _)⟩)
            dsimp only [Pt.U, Pt.locs, Pt.cells, Pt.slots] at X13 l13 y13 z13 st13 hQ13
            subst l13 y13 z13
            obtain ⟨rfl, N13q, K13q, G13_0, G13_1, G13_2, G13_3⟩ := hQ13
            have Z14 : n0 ≤ Array.size T13.heap := Nat.le_trans Z7 K13q.1
            have KC14 : Keep h0 T13.heap [] := KC7.trans K13q (allS (Or.inr sz_b6) all0)
            have N13 := Fr.app N8 N13q
            refine own_tr st13 ?_
            show own_Fin p e below _ (T13.setTop (mkF m 112 #[.val (.int p0), .val (.int p1), .val (.int p2), .val (.long p3), .second, .val (.long p4), .second, .val (.int p5), .val (.int (p0 &&& (3 : Int32))), .val (.int kb), .val (.int fa), .val (.int fb), .val (.int sb), .val (.long tb), .second, .unset, .unset, .unset, .unset, .unset, .unset, .unset, .unset] [(.ref b6)]))
            refine own_st (fun t k => XS.astore X13.here hx rfl (hb hby at_112) rfl rfl (l' := #[.val (.int p0), .val (.int p1), .val (.int p2), .val (.long p3), .second, .val (.long p4), .second, .val (.int p5), .val (.int (p0 &&& (3 : Int32))), .val (.int kb), .val (.int fa), .val (.int fb), .val (.int sb), .val (.long tb), .second, .val (.ref b6), .unset, .unset, .unset, .unset, .unset, .unset, .unset]) rfl k) ?_
            show own_Fin p e below _ (T13.setTop (mkF m 114 #[.val (.int p0), .val (.int p1), .val (.int p2), .val (.long p3), .second, .val (.long p4), .second, .val (.int p5), .val (.int (p0 &&& (3 : Int32))), .val (.int kb), .val (.int fa), .val (.int fb), .val (.int sb), .val (.long tb), .second, .val (.ref b6), .unset, .unset, .unset, .unset, .unset, .unset, .unset] []))
            obtain ⟨T15, h15, X15, e15, E15, A15, D15, -, st15⟩ := newO X13 hx hZ hown (hw _ (List.mem_of_getElem? (i := 0) rfl)) (hw _ (List.mem_of_getElem? (i := 1) rfl)) (hw _ (List.mem_of_getElem? (i := 2) rfl)) rfl (g := (mkF m 114 #[.val (.int p0), .val (.int p1), .val (.int p2), .val (.long p3), .second, .val (.long p4), .second, .val (.int p5), .val (.int (p0 &&& (3 : Int32))), .val (.int kb), .val (.int fa), .val (.int fb), .val (.int sb), .val (.long tb), .second, .val (.ref b6), .unset, .unset, .unset, .unset, .unset, .unset, .unset] [])) rfl (hb hby at_114) (by decide) (by decide)
            obtain ⟨b15, g15⟩ : ∃ z, z = Array.size T13.heap := ⟨_, rfl⟩
            rw [show Array.size T13.heap = b15 from g15.symm] at A15 D15 st15
            have le_b15 : Array.size T13.heap ≤ b15 := Nat.le_of_eq g15.symm
            have sz_b15 : h0.size ≤ b15 := Nat.le_trans KC14.1 le_b15
            have g_b15 : n0 ≤ b15 := Nat.le_trans Z0 sz_b15
            have Z16 : n0 ≤ Array.size h15 := Nat.le_trans Z14 E15.1
            have KC16 : Keep h0 h15 [] := KC14.ext E15
            have F15_17 : Fld Z h15 b15 "com/example/deioces/deioces/Message" "kind" "Lcom/example/deioces/deioces/Message$Kind;" .null := D15 (Or.inr (hw _ (List.mem_of_getElem? (i := 17) rfl))) (ty := (.object "com/example/deioces/deioces/Message$Kind")) (by decide)
            have F15_19 : Fld Z h15 b15 "com/example/deioces/deioces/Message" "sender" "I" (.int (0 : Int32)) := D15 (Or.inr (hw _ (List.mem_of_getElem? (i := 19) rfl))) (ty := .int) (by decide)
            have F15_21 : Fld Z h15 b15 "com/example/deioces/deioces/Message" "stamp" "J" (.long (0 : Int64)) := D15 (Or.inr (hw _ (List.mem_of_getElem? (i := 21) rfl))) (ty := .long) (by decide)
            have F15_23 : Fld Z h15 b15 "com/example/deioces/deioces/Message" "supportive" "Z" (.int (0 : Int32)) := D15 (Or.inr (hw _ (List.mem_of_getElem? (i := 23) rfl))) (ty := .boolean) (by decide)
            refine own_st st15 ?_
            show own_Fin p e below _ (T15.setTop (mkF m 117 #[.val (.int p0), .val (.int p1), .val (.int p2), .val (.long p3), .second, .val (.long p4), .second, .val (.int p5), .val (.int (p0 &&& (3 : Int32))), .val (.int kb), .val (.int fa), .val (.int fb), .val (.int sb), .val (.long tb), .second, .val (.ref b6), .unset, .unset, .unset, .unset, .unset, .unset, .unset] [(.ref b15)]))
            refine own_st (fun t k => XS.dup X15.here hx rfl (hb hby at_117) rfl rfl k) ?_
            show own_Fin p e below _ (T15.setTop (mkF m 118 #[.val (.int p0), .val (.int p1), .val (.int p2), .val (.long p3), .second, .val (.long p4), .second, .val (.int p5), .val (.int (p0 &&& (3 : Int32))), .val (.int kb), .val (.int fa), .val (.int fb), .val (.int sb), .val (.long tb), .second, .val (.ref b6), .unset, .unset, .unset, .unset, .unset, .unset, .unset] [(.ref b15), (.ref b15)]))
            refine own_st (fun t k => XS.iload X15.here hx rfl (hb hby at_118) rfl k) ?_
            show own_Fin p e below _ (T15.setTop (mkF m 120 #[.val (.int p0), .val (.int p1), .val (.int p2), .val (.long p3), .second, .val (.long p4), .second, .val (.int p5), .val (.int (p0 &&& (3 : Int32))), .val (.int kb), .val (.int fa), .val (.int fb), .val (.int sb), .val (.long tb), .second, .val (.ref b6), .unset, .unset, .unset, .unset, .unset, .unset, .unset] [(.int kb), (.ref b15), (.ref b15)]))
            have F18 : Sta Z h15 "com/example/deioces/deioces/Message$Kind" "ELECTION" "Lcom/example/deioces/deioces/Message$Kind;" (.ref w_ELECTION) := ((own_staKeep F9 K13q (allS (own_plain A6) all0)).ext E15)
            have F19 : Sta Z h15 "com/example/deioces/deioces/Message$Kind" "REPLY" "Lcom/example/deioces/deioces/Message$Kind;" (.ref w_REPLY) := ((own_staKeep F10 K13q (allS (own_plain A6) all0)).ext E15)
            have F20 : Sta Z h15 "com/example/deioces/deioces/Message$Kind" "RELEASE" "Lcom/example/deioces/deioces/Message$Kind;" (.ref w_RELEASE) := ((own_staKeep F11 K13q (allS (own_plain A6) all0)).ext E15)
            have F21 : Sta Z h15 "com/example/deioces/deioces/Message$Kind" "HEARTBEAT" "Lcom/example/deioces/deioces/Message$Kind;" (.ref w_HEARTBEAT) := ((own_staKeep F12 K13q (allS (own_plain A6) all0)).ext E15)
            obtain ⟨_, _, ⟨T17, L17, k17, n17⟩, -, X17, ⟨Lc17, hQ17, l17, y17, z17⟩, st17⟩ := Jvm.LawKit.callS X15 hx (y := (⟨"com/example/deioces/deioces/MessageEqualsPinLaw", "kindOf", "(I)Lcom/example/deioces/deioces/Message$Kind;"⟩ : MethodName)) hown (mvT hZ (hw _ (List.mem_of_getElem? (i := 3) rfl))) (mvT hZ (hw _ (List.mem_of_getElem? (i := 4) rfl))) (mvT hZ (hw _ (List.mem_of_getElem? (i := 5) rfl))) (mvT hZ (hw _ (List.mem_of_getElem? (i := 6) rfl))) (by decide) (backOf (W := 2) (rm1_1 l Z a0 hw [] kb w_ELECTION w_REPLY w_RELEASE w_HEARTBEAT h15 n0 Z16 F18 F19 F20 F21) hZ (hw _ (List.mem_of_getElem? (i := 6) rfl)) (hw _ (List.mem_of_getElem? (i := 5) rfl)) (by decide) (by decide)) (g := (mkF m 120 #[.val (.int p0), .val (.int p1), .val (.int p2), .val (.long p3), .second, .val (.long p4), .second, .val (.int p5), .val (.int (p0 &&& (3 : Int32))), .val (.int kb), .val (.int fa), .val (.int fb), .val (.int sb), .val (.long tb), .second, .val (.ref b6), .unset, .unset, .unset, .unset, .unset, .unset, .unset] [(.int kb), (.ref b15), (.ref b15)])) rfl (by rw [hml]; rfl) (argsL := [(.int kb)]) (rest := [(.ref b15), (.ref b15)]) (lenOf pd__I_Lcom_example_deioces_deioces_Message_Kind_ rfl) rfl (by show 2 * 0 + _ ≤ _; exact Nat.le_of_eq rfl) (hb hby at_120) (fun _ _ => ⟨rfl, e15, (by decide : 2 + 0 ≤ _), (by decide : 8 + 0 ≤ _)⟩)
            dsimp only [Pt.U, Pt.locs, Pt.cells, Pt.slots] at X17 l17 y17 z17 st17 hQ17
            subst l17 y17 z17
            obtain ⟨rfl, N17q, e17⟩ := hQ17
            have N17 := Fr.app N13 N17q
            refine own_st st17 ?_
            show own_Fin p e below _ (T17.setTop (mkF m 123 #[.val (.int p0), .val (.int p1), .val (.int p2), .val (.long p3), .second, .val (.long p4), .second, .val (.int p5), .val (.int (p0 &&& (3 : Int32))), .val (.int kb), .val (.int fa), .val (.int fb), .val (.int sb), .val (.long tb), .second, .val (.ref b6), .unset, .unset, .unset, .unset, .unset, .unset, .unset] [(.ref (own_kd kb w_ELECTION w_REPLY w_RELEASE w_HEARTBEAT)), (.ref b15), (.ref b15)]))
            refine own_st (fun t k => XS.iload X17.here hx rfl (hb hby at_123) rfl k) ?_
            show own_Fin p e below _ (T17.setTop (mkF m 125 #[.val (.int p0), .val (.int p1), .val (.int p2), .val (.long p3), .second, .val (.long p4), .second, .val (.int p5), .val (.int (p0 &&& (3 : Int32))), .val (.int kb), .val (.int fa), .val (.int fb), .val (.int sb), .val (.long tb), .second, .val (.ref b6), .unset, .unset, .unset, .unset, .unset, .unset, .unset] [(.int sb), (.ref (own_kd kb w_ELECTION w_REPLY w_RELEASE w_HEARTBEAT)), (.ref b15), (.ref b15)]))
            refine own_st (fun t k => XS.lload X17.here hx rfl (hb hby at_125) rfl k) ?_
            show own_Fin p e below _ (T17.setTop (mkF m 127 #[.val (.int p0), .val (.int p1), .val (.int p2), .val (.long p3), .second, .val (.long p4), .second, .val (.int p5), .val (.int (p0 &&& (3 : Int32))), .val (.int kb), .val (.int fa), .val (.int fb), .val (.int sb), .val (.long tb), .second, .val (.ref b6), .unset, .unset, .unset, .unset, .unset, .unset, .unset] [(.long tb), (.int sb), (.ref (own_kd kb w_ELECTION w_REPLY w_RELEASE w_HEARTBEAT)), (.ref b15), (.ref b15)]))
            refine own_st (fun t k => XS.iload X17.here hx rfl (hb hby at_127) rfl k) ?_
            show own_Fin p e below _ (T17.setTop (mkF m 129 #[.val (.int p0), .val (.int p1), .val (.int p2), .val (.long p3), .second, .val (.long p4), .second, .val (.int p5), .val (.int (p0 &&& (3 : Int32))), .val (.int kb), .val (.int fa), .val (.int fb), .val (.int sb), .val (.long tb), .second, .val (.ref b6), .unset, .unset, .unset, .unset, .unset, .unset, .unset] [(.int fb), (.long tb), (.int sb), (.ref (own_kd kb w_ELECTION w_REPLY w_RELEASE w_HEARTBEAT)), (.ref b15), (.ref b15)]))
            obtain ⟨_, _, ⟨T22, L22, k22, n22⟩, -, X22, ⟨Lc22, hQ22, l22, y22, z22⟩, st22⟩ := X17.specialBack hx (y := (⟨"com/example/deioces/deioces/Message", "<init>", "(Lcom/example/deioces/deioces/Message$Kind;IJZ)V"⟩ : MethodName)) rfl hown (mvT hZ (hw _ (List.mem_of_getElem? (i := 10) rfl))) (mvT hZ (hw _ (List.mem_of_getElem? (i := 11) rfl))) (mvT hZ (hw _ (List.mem_of_getElem? (i := 12) rfl))) (by decide) (backOf (W := 1) (rm2_2 l Z a0 hw [] b15 (own_kd kb w_ELECTION w_REPLY w_RELEASE w_HEARTBEAT) sb tb fb h15 n0 Z16 hfb F15_17 A15 g_b15 F15_19 F15_21 F15_23) hZ (hw _ (List.mem_of_getElem? (i := 12) rfl)) (hw _ (List.mem_of_getElem? (i := 2) rfl)) (by decide) (by decide)) (g := (mkF m 129 #[.val (.int p0), .val (.int p1), .val (.int p2), .val (.long p3), .second, .val (.long p4), .second, .val (.int p5), .val (.int (p0 &&& (3 : Int32))), .val (.int kb), .val (.int fa), .val (.int fb), .val (.int sb), .val (.long tb), .second, .val (.ref b6), .unset, .unset, .unset, .unset, .unset, .unset, .unset] [(.int fb), (.long tb), (.int sb), (.ref (own_kd kb w_ELECTION w_REPLY w_RELEASE w_HEARTBEAT)), (.ref b15), (.ref b15)])) rfl (by rw [hml]; rfl) (Steps.refl _) (a := b15) (argsL := [(.ref (own_kd kb w_ELECTION w_REPLY w_RELEASE w_HEARTBEAT)), (.int sb), (.long tb), (.int fb)]) (rest := [(.ref b15)]) (lenOf pd__Lcom_example_deioces_deioces_Message_Kind_IJZ_V rfl) rfl (by show 2 * 0 + _ ≤ _; exact Nat.le_of_eq rfl) (hb hby at_129) (fun _ _ => ⟨rfl, e17, (by decide : 2 + 0 ≤ _), (by decide : 8 + 0 ≤ _)⟩)
            dsimp only [Pt.U, Pt.locs, Pt.cells, Pt.slots] at X22 l22 y22 z22 st22 hQ22
            subst l22 y22 z22
            obtain ⟨rfl, N22q, K22q, G22_0, G22_1, G22_2, G22_3⟩ := hQ22
            have Z23 : n0 ≤ Array.size T22.heap := Nat.le_trans Z16 K22q.1
            have KC23 : Keep h0 T22.heap [] := KC16.trans K22q (allS (Or.inr sz_b15) all0)
            have N22 := Fr.app N17 N22q
            refine own_tr st22 ?_
            show own_Fin p e below _ (T22.setTop (mkF m 132 #[.val (.int p0), .val (.int p1), .val (.int p2), .val (.long p3), .second, .val (.long p4), .second, .val (.int p5), .val (.int (p0 &&& (3 : Int32))), .val (.int kb), .val (.int fa), .val (.int fb), .val (.int sb), .val (.long tb), .second, .val (.ref b6), .unset, .unset, .unset, .unset, .unset, .unset, .unset] [(.ref b15)]))
            refine own_st (fun t k => XS.astore X22.here hx rfl (hb hby at_132) rfl rfl (l' := #[.val (.int p0), .val (.int p1), .val (.int p2), .val (.long p3), .second, .val (.long p4), .second, .val (.int p5), .val (.int (p0 &&& (3 : Int32))), .val (.int kb), .val (.int fa), .val (.int fb), .val (.int sb), .val (.long tb), .second, .val (.ref b6), .val (.ref b15), .unset, .unset, .unset, .unset, .unset, .unset]) rfl k) ?_
            show own_Fin p e below _ (T22.setTop (mkF m 134 #[.val (.int p0), .val (.int p1), .val (.int p2), .val (.long p3), .second, .val (.long p4), .second, .val (.int p5), .val (.int (p0 &&& (3 : Int32))), .val (.int kb), .val (.int fa), .val (.int fb), .val (.int sb), .val (.long tb), .second, .val (.ref b6), .val (.ref b15), .unset, .unset, .unset, .unset, .unset, .unset] []))
            refine own_st (fun t k => XS.iload X22.here hx rfl (hb hby at_134) rfl k) ?_
            show own_Fin p e below _ (T22.setTop (mkF m 136 #[.val (.int p0), .val (.int p1), .val (.int p2), .val (.long p3), .second, .val (.long p4), .second, .val (.int p5), .val (.int (p0 &&& (3 : Int32))), .val (.int kb), .val (.int fa), .val (.int fb), .val (.int sb), .val (.long tb), .second, .val (.ref b6), .val (.ref b15), .unset, .unset, .unset, .unset, .unset, .unset] [(.int p5)]))
            refine own_st (fun t k => XS.iconst X22.here hx rfl (hb hby at_136) k) ?_
            show own_Fin p e below _ (T22.setTop (mkF m 137 #[.val (.int p0), .val (.int p1), .val (.int p2), .val (.long p3), .second, .val (.long p4), .second, .val (.int p5), .val (.int (p0 &&& (3 : Int32))), .val (.int kb), .val (.int fa), .val (.int fb), .val (.int sb), .val (.long tb), .second, .val (.ref b6), .val (.ref b15), .unset, .unset, .unset, .unset, .unset, .unset] [(.int (4 : Int32)), (.int p5)]))
            refine own_st (fun t k => XS.iushr X22.here hx rfl (hb hby at_137) rfl k) ?_
            show own_Fin p e below _ (T22.setTop (mkF m 138 #[.val (.int p0), .val (.int p1), .val (.int p2), .val (.long p3), .second, .val (.long p4), .second, .val (.int p5), .val (.int (p0 &&& (3 : Int32))), .val (.int kb), .val (.int fa), .val (.int fb), .val (.int sb), .val (.long tb), .second, .val (.ref b6), .val (.ref b15), .unset, .unset, .unset, .unset, .unset, .unset] [(.int ((p5.toUInt32 >>> ((4 : Int32) &&& 31).toUInt32).toInt32))]))
            refine own_st (fun t k => XS.iconst X22.here hx rfl (hb hby at_138) k) ?_
            show own_Fin p e below _ (T22.setTop (mkF m 139 #[.val (.int p0), .val (.int p1), .val (.int p2), .val (.long p3), .second, .val (.long p4), .second, .val (.int p5), .val (.int (p0 &&& (3 : Int32))), .val (.int kb), .val (.int fa), .val (.int fb), .val (.int sb), .val (.long tb), .second, .val (.ref b6), .val (.ref b15), .unset, .unset, .unset, .unset, .unset, .unset] [(.int (3 : Int32)), (.int ((p5.toUInt32 >>> ((4 : Int32) &&& 31).toUInt32).toInt32))]))
            refine own_st (fun t k => XS.iand X22.here hx rfl (hb hby at_139) rfl k) ?_
            show own_Fin p e below _ (T22.setTop (mkF m 140 #[.val (.int p0), .val (.int p1), .val (.int p2), .val (.long p3), .second, .val (.long p4), .second, .val (.int p5), .val (.int (p0 &&& (3 : Int32))), .val (.int kb), .val (.int fa), .val (.int fb), .val (.int sb), .val (.long tb), .second, .val (.ref b6), .val (.ref b15), .unset, .unset, .unset, .unset, .unset, .unset] [(.int (((p5.toUInt32 >>> ((4 : Int32) &&& 31).toUInt32).toInt32) &&& (3 : Int32)))]))
            refine own_st (fun t k => XS.istore X22.here hx rfl (hb hby at_140) rfl (l' := #[.val (.int p0), .val (.int p1), .val (.int p2), .val (.long p3), .second, .val (.long p4), .second, .val (.int p5), .val (.int (p0 &&& (3 : Int32))), .val (.int kb), .val (.int fa), .val (.int fb), .val (.int sb), .val (.long tb), .second, .val (.ref b6), .val (.ref b15), .val (.int (((p5.toUInt32 >>> ((4 : Int32) &&& 31).toUInt32).toInt32) &&& (3 : Int32))), .unset, .unset, .unset, .unset, .unset]) rfl k) ?_
            show own_Fin p e below _ (T22.setTop (mkF m 142 #[.val (.int p0), .val (.int p1), .val (.int p2), .val (.long p3), .second, .val (.long p4), .second, .val (.int p5), .val (.int (p0 &&& (3 : Int32))), .val (.int kb), .val (.int fa), .val (.int fb), .val (.int sb), .val (.long tb), .second, .val (.ref b6), .val (.ref b15), .val (.int (((p5.toUInt32 >>> ((4 : Int32) &&& 31).toUInt32).toInt32) &&& (3 : Int32))), .unset, .unset, .unset, .unset, .unset] []))
            rcases own_mask4 ((p5.toUInt32 >>> ((4 : Int32) &&& 31).toUInt32).toInt32) with qL142 | qL142 | qL142 | qL142
            ·
              rw [qL142]
              show own_Fin p e below _ (T22.setTop (mkF m 142 #[.val (.int p0), .val (.int p1), .val (.int p2), .val (.long p3), .second, .val (.long p4), .second, .val (.int p5), .val (.int (p0 &&& (3 : Int32))), .val (.int kb), .val (.int fa), .val (.int fb), .val (.int sb), .val (.long tb), .second, .val (.ref b6), .val (.ref b15), .val (.int (0 : Int32)), .unset, .unset, .unset, .unset, .unset] []))
              refine own_st (fun t k => XS.iload X22.here hx rfl (hb hby at_142) rfl k) ?_
              show own_Fin p e below _ (T22.setTop (mkF m 144 #[.val (.int p0), .val (.int p1), .val (.int p2), .val (.long p3), .second, .val (.long p4), .second, .val (.int p5), .val (.int (p0 &&& (3 : Int32))), .val (.int kb), .val (.int fa), .val (.int fb), .val (.int sb), .val (.long tb), .second, .val (.ref b6), .val (.ref b15), .val (.int (0 : Int32)), .unset, .unset, .unset, .unset, .unset] [(.int (0 : Int32))]))
              refine own_st (fun t k => XS.iconst X22.here hx rfl (hb hby at_144) k) ?_
              show own_Fin p e below _ (T22.setTop (mkF m 145 #[.val (.int p0), .val (.int p1), .val (.int p2), .val (.long p3), .second, .val (.long p4), .second, .val (.int p5), .val (.int (p0 &&& (3 : Int32))), .val (.int kb), .val (.int fa), .val (.int fb), .val (.int sb), .val (.long tb), .second, .val (.ref b6), .val (.ref b15), .val (.int (0 : Int32)), .unset, .unset, .unset, .unset, .unset] [(.int (2 : Int32)), (.int (0 : Int32))]))
              refine own_st (fun t k => XS.icmpYes X22.here hx rfl (pc0 := 145) (pc' := 154) rfl (hb hby at_145) rfl (by decide) (by decide) (by decide) k) ?_
              show own_Fin p e below _ (T22.setTop (mkF m 154 #[.val (.int p0), .val (.int p1), .val (.int p2), .val (.long p3), .second, .val (.long p4), .second, .val (.int p5), .val (.int (p0 &&& (3 : Int32))), .val (.int kb), .val (.int fa), .val (.int fb), .val (.int sb), .val (.long tb), .second, .val (.ref b6), .val (.ref b15), .val (.int (0 : Int32)), .unset, .unset, .unset, .unset, .unset] []))
              refine own_st (fun t k => XS.iload X22.here hx rfl (hb hby at_154) rfl k) ?_
              show own_Fin p e below _ (T22.setTop (mkF m 156 #[.val (.int p0), .val (.int p1), .val (.int p2), .val (.long p3), .second, .val (.long p4), .second, .val (.int p5), .val (.int (p0 &&& (3 : Int32))), .val (.int kb), .val (.int fa), .val (.int fb), .val (.int sb), .val (.long tb), .second, .val (.ref b6), .val (.ref b15), .val (.int (0 : Int32)), .unset, .unset, .unset, .unset, .unset] [(.int (0 : Int32))]))
              refine own_st (fun t k => XS.iconst X22.here hx rfl (hb hby at_156) k) ?_
              show own_Fin p e below _ (T22.setTop (mkF m 157 #[.val (.int p0), .val (.int p1), .val (.int p2), .val (.long p3), .second, .val (.long p4), .second, .val (.int p5), .val (.int (p0 &&& (3 : Int32))), .val (.int kb), .val (.int fa), .val (.int fb), .val (.int sb), .val (.long tb), .second, .val (.ref b6), .val (.ref b15), .val (.int (0 : Int32)), .unset, .unset, .unset, .unset, .unset] [(.int (3 : Int32)), (.int (0 : Int32))]))
              refine own_st (fun t k => XS.icmpYes X22.here hx rfl (pc0 := 157) (pc' := 177) rfl (hb hby at_157) rfl (by decide) (by decide) (by decide) k) ?_
              show own_Fin p e below _ (T22.setTop (mkF m 177 #[.val (.int p0), .val (.int p1), .val (.int p2), .val (.long p3), .second, .val (.long p4), .second, .val (.int p5), .val (.int (p0 &&& (3 : Int32))), .val (.int kb), .val (.int fa), .val (.int fb), .val (.int sb), .val (.long tb), .second, .val (.ref b6), .val (.ref b15), .val (.int (0 : Int32)), .unset, .unset, .unset, .unset, .unset] []))
              refine own_st (fun t k => XS.aload X22.here hx rfl (hb hby at_177) rfl rfl k) ?_
              show own_Fin p e below _ (T22.setTop (mkF m 179 #[.val (.int p0), .val (.int p1), .val (.int p2), .val (.long p3), .second, .val (.long p4), .second, .val (.int p5), .val (.int (p0 &&& (3 : Int32))), .val (.int kb), .val (.int fa), .val (.int fb), .val (.int sb), .val (.long tb), .second, .val (.ref b6), .val (.ref b15), .val (.int (0 : Int32)), .unset, .unset, .unset, .unset, .unset] [(.ref b15)]))
              refine own_st (fun t k => XS.astore X22.here hx rfl (hb hby at_179) rfl rfl (l' := #[.val (.int p0), .val (.int p1), .val (.int p2), .val (.long p3), .second, .val (.long p4), .second, .val (.int p5), .val (.int (p0 &&& (3 : Int32))), .val (.int kb), .val (.int fa), .val (.int fb), .val (.int sb), .val (.long tb), .second, .val (.ref b6), .val (.ref b15), .val (.int (0 : Int32)), .val (.ref b15), .unset, .unset, .unset, .unset]) rfl k) ?_
              show own_Fin p e below _ (T22.setTop (mkF m 181 #[.val (.int p0), .val (.int p1), .val (.int p2), .val (.long p3), .second, .val (.long p4), .second, .val (.int p5), .val (.int (p0 &&& (3 : Int32))), .val (.int kb), .val (.int fa), .val (.int fb), .val (.int sb), .val (.long tb), .second, .val (.ref b6), .val (.ref b15), .val (.int (0 : Int32)), .val (.ref b15), .unset, .unset, .unset, .unset] []))
              refine own_st (fun t k => XS.iload X22.here hx rfl (hb hby at_181) rfl k) ?_
              show own_Fin p e below _ (T22.setTop (mkF m 183 #[.val (.int p0), .val (.int p1), .val (.int p2), .val (.long p3), .second, .val (.long p4), .second, .val (.int p5), .val (.int (p0 &&& (3 : Int32))), .val (.int kb), .val (.int fa), .val (.int fb), .val (.int sb), .val (.long tb), .second, .val (.ref b6), .val (.ref b15), .val (.int (0 : Int32)), .val (.ref b15), .unset, .unset, .unset, .unset] [(.int (0 : Int32))]))
              refine own_st (fun t k => XS.iconst X22.here hx rfl (hb hby at_183) k) ?_
              show own_Fin p e below _ (T22.setTop (mkF m 184 #[.val (.int p0), .val (.int p1), .val (.int p2), .val (.long p3), .second, .val (.long p4), .second, .val (.int p5), .val (.int (p0 &&& (3 : Int32))), .val (.int kb), .val (.int fa), .val (.int fb), .val (.int sb), .val (.long tb), .second, .val (.ref b6), .val (.ref b15), .val (.int (0 : Int32)), .val (.ref b15), .unset, .unset, .unset, .unset] [(.int (2 : Int32)), (.int (0 : Int32))]))
              refine own_st (fun t k => XS.icmpNo X22.here hx rfl (hb hby at_184) rfl (by decide) k) ?_
              show own_Fin p e below _ (T22.setTop (mkF m 187 #[.val (.int p0), .val (.int p1), .val (.int p2), .val (.long p3), .second, .val (.long p4), .second, .val (.int p5), .val (.int (p0 &&& (3 : Int32))), .val (.int kb), .val (.int fa), .val (.int fb), .val (.int sb), .val (.long tb), .second, .val (.ref b6), .val (.ref b15), .val (.int (0 : Int32)), .val (.ref b15), .unset, .unset, .unset, .unset] []))
              refine own_st (fun t k => XS.iload X22.here hx rfl (hb hby at_187) rfl k) ?_
              show own_Fin p e below _ (T22.setTop (mkF m 189 #[.val (.int p0), .val (.int p1), .val (.int p2), .val (.long p3), .second, .val (.long p4), .second, .val (.int p5), .val (.int (p0 &&& (3 : Int32))), .val (.int kb), .val (.int fa), .val (.int fb), .val (.int sb), .val (.long tb), .second, .val (.ref b6), .val (.ref b15), .val (.int (0 : Int32)), .val (.ref b15), .unset, .unset, .unset, .unset] [(.int (p0 &&& (3 : Int32)))]))
              refine own_st (fun t k => XS.iload X22.here hx rfl (hb hby at_189) rfl k) ?_
              show own_Fin p e below _ (T22.setTop (mkF m 191 #[.val (.int p0), .val (.int p1), .val (.int p2), .val (.long p3), .second, .val (.long p4), .second, .val (.int p5), .val (.int (p0 &&& (3 : Int32))), .val (.int kb), .val (.int fa), .val (.int fb), .val (.int sb), .val (.long tb), .second, .val (.ref b6), .val (.ref b15), .val (.int (0 : Int32)), .val (.ref b15), .unset, .unset, .unset, .unset] [(.int kb), (.int (p0 &&& (3 : Int32)))]))
              have J219 : ∀ (ex : Int32) (hex : ex = own_ex (p0 &&& (3 : Int32)) kb p1 sb p3 tb fa fb), own_Fin p e below (own_K0 s n0) (T22.setTop (mkF m 219 #[.val (.int p0), .val (.int p1), .val (.int p2), .val (.long p3), .second, .val (.long p4), .second, .val (.int p5), .val (.int (p0 &&& (3 : Int32))), .val (.int kb), .val (.int fa), .val (.int fb), .val (.int sb), .val (.long tb), .second, .val (.ref b6), .val (.ref b15), .val (.int (0 : Int32)), .val (.ref b15), .unset, .unset, .unset, .unset] [(.int ex)])) := by
                intro ex hex
                refine own_st (fun t k => XS.istore X22.here hx rfl (hb hby at_219) rfl (l' := #[.val (.int p0), .val (.int p1), .val (.int p2), .val (.long p3), .second, .val (.long p4), .second, .val (.int p5), .val (.int (p0 &&& (3 : Int32))), .val (.int kb), .val (.int fa), .val (.int fb), .val (.int sb), .val (.long tb), .second, .val (.ref b6), .val (.ref b15), .val (.int (0 : Int32)), .val (.ref b15), .val (.int ex), .unset, .unset, .unset]) rfl k) ?_
                show own_Fin p e below _ (T22.setTop (mkF m 221 #[.val (.int p0), .val (.int p1), .val (.int p2), .val (.long p3), .second, .val (.long p4), .second, .val (.int p5), .val (.int (p0 &&& (3 : Int32))), .val (.int kb), .val (.int fa), .val (.int fb), .val (.int sb), .val (.long tb), .second, .val (.ref b6), .val (.ref b15), .val (.int (0 : Int32)), .val (.ref b15), .val (.int ex), .unset, .unset, .unset] []))
                refine own_st (fun t k => XS.aload X22.here hx rfl (hb hby at_221) rfl rfl k) ?_
                show own_Fin p e below _ (T22.setTop (mkF m 223 #[.val (.int p0), .val (.int p1), .val (.int p2), .val (.long p3), .second, .val (.long p4), .second, .val (.int p5), .val (.int (p0 &&& (3 : Int32))), .val (.int kb), .val (.int fa), .val (.int fb), .val (.int sb), .val (.long tb), .second, .val (.ref b6), .val (.ref b15), .val (.int (0 : Int32)), .val (.ref b15), .val (.int ex), .unset, .unset, .unset] [(.ref b6)]))
                refine own_st (fun t k => XS.aload X22.here hx rfl (hb hby at_223) rfl rfl k) ?_
                show own_Fin p e below _ (T22.setTop (mkF m 225 #[.val (.int p0), .val (.int p1), .val (.int p2), .val (.long p3), .second, .val (.long p4), .second, .val (.int p5), .val (.int (p0 &&& (3 : Int32))), .val (.int kb), .val (.int fa), .val (.int fb), .val (.int sb), .val (.long tb), .second, .val (.ref b6), .val (.ref b15), .val (.int (0 : Int32)), .val (.ref b15), .val (.int ex), .unset, .unset, .unset] [(.ref b15), (.ref b6)]))
                have F26 : Exa Z T22.heap b6 "com/example/deioces/deioces/Message" := (((A6.keep K13q).ext E15).keep K22q)
                have F27 : Exa Z T22.heap b15 "com/example/deioces/deioces/Message" := (A15.keep K22q)
                have F28 : Fld Z T22.heap b6 "com/example/deioces/deioces/Message" "kind" "Lcom/example/deioces/deioces/Message$Kind;" (.ref (own_kd (p0 &&& (3 : Int32)) w_ELECTION w_REPLY w_RELEASE w_HEARTBEAT)) := ((G13_0.ext E15).keep K22q (ninS (Nat.ne_of_lt (Nat.lt_of_lt_of_le (A6.keep K13q).lt le_b15)) nin0))
                have F29 : Fld Z T22.heap b6 "com/example/deioces/deioces/Message" "sender" "I" (.int p1) := ((G13_1.ext E15).keep K22q (ninS (Nat.ne_of_lt (Nat.lt_of_lt_of_le (A6.keep K13q).lt le_b15)) nin0))
                have F30 : Fld Z T22.heap b6 "com/example/deioces/deioces/Message" "stamp" "J" (.long p3) := ((G13_2.ext E15).keep K22q (ninS (Nat.ne_of_lt (Nat.lt_of_lt_of_le (A6.keep K13q).lt le_b15)) nin0))
                have F31 : Fld Z T22.heap b6 "com/example/deioces/deioces/Message" "supportive" "Z" (.int fa) := ((G13_3.ext E15).keep K22q (ninS (Nat.ne_of_lt (Nat.lt_of_lt_of_le (A6.keep K13q).lt le_b15)) nin0))
                obtain ⟨cq25, kq25, q25a, q25b, q25c⟩ := isOf hZ rfl F26
                obtain ⟨_, _, ⟨T25, L25, k25, n25⟩, -, X25, ⟨Lc25, hQ25, l25, y25, z25⟩, st25⟩ := X22.virtualBack hx (y := (⟨"com/example/deioces/deioces/Message", "equals", "(Ljava/lang/Object;)Z"⟩ : MethodName)) (z := (⟨"com/example/deioces/deioces/Message", "equals", "(Ljava/lang/Object;)Z"⟩ : MethodName)) hown (mvT hZ (hw _ (List.mem_of_getElem? (i := 24) rfl))) (mvT hZ (hw _ (List.mem_of_getElem? (i := 25) rfl))) (notFace_of_selects (args := #[]) (mvT hZ (hw _ (List.mem_of_getElem? (i := 27) rfl)))) (mvT hZ (hw _ (List.mem_of_getElem? (i := 27) rfl))) (mvT hZ (hw _ (List.mem_of_getElem? (i := 26) rfl))) (by decide) (backOf (W := 0) (rm4_3 l Z a0 hw [] b6 b15 (own_kd (p0 &&& (3 : Int32)) w_ELECTION w_REPLY w_RELEASE w_HEARTBEAT) (own_kd kb w_ELECTION w_REPLY w_RELEASE w_HEARTBEAT) p1 sb p3 tb fa fb T22.heap n0 Z23 F27 F28 G22_0 F29 G22_1 F30 G22_2 hfa F31 hfb G22_3) hZ (hw _ (List.mem_of_getElem? (i := 28) rfl)) (hw _ (List.mem_of_getElem? (i := 2) rfl)) (by decide) (by decide)) q25a q25c (g := (mkF m 225 #[.val (.int p0), .val (.int p1), .val (.int p2), .val (.long p3), .second, .val (.long p4), .second, .val (.int p5), .val (.int (p0 &&& (3 : Int32))), .val (.int kb), .val (.int fa), .val (.int fb), .val (.int sb), .val (.long tb), .second, .val (.ref b6), .val (.ref b15), .val (.int (0 : Int32)), .val (.ref b15), .val (.int ex), .unset, .unset, .unset] [(.ref b15), (.ref b6)])) rfl (by rw [hml]; rfl) (Steps.refl _) (argsL := [(.ref b15)]) (rest := []) (lenOf pd__Ljava_lang_Object__Z rfl) rfl (by show 2 * 0 + _ ≤ _; exact Nat.le_of_eq rfl) (hb hby at_225) (fun _ _ => ⟨rfl, rfl, (by decide : 2 + 0 ≤ _), (by decide : 8 + 0 ≤ _)⟩)
                dsimp only [Pt.U, Pt.locs, Pt.cells, Pt.slots] at X25 l25 y25 z25 st25 hQ25
                subst l25 y25 z25
                obtain ⟨rfl, N25q, e25⟩ := hQ25
                have N25 := Fr.app N22 N25q
                refine own_tr st25 ?_
                show own_Fin p e below _ (T25.setTop (mkF m 228 #[.val (.int p0), .val (.int p1), .val (.int p2), .val (.long p3), .second, .val (.long p4), .second, .val (.int p5), .val (.int (p0 &&& (3 : Int32))), .val (.int kb), .val (.int fa), .val (.int fb), .val (.int sb), .val (.long tb), .second, .val (.ref b6), .val (.ref b15), .val (.int (0 : Int32)), .val (.ref b15), .val (.int ex), .unset, .unset, .unset] [(.int (own_eq (own_kd (p0 &&& (3 : Int32)) w_ELECTION w_REPLY w_RELEASE w_HEARTBEAT) (own_kd kb w_ELECTION w_REPLY w_RELEASE w_HEARTBEAT) p1 sb p3 tb fa fb))]))
                refine own_st (fun t k => XS.istore X25.here hx rfl (hb hby at_228) rfl (l' := #[.val (.int p0), .val (.int p1), .val (.int p2), .val (.long p3), .second, .val (.long p4), .second, .val (.int p5), .val (.int (p0 &&& (3 : Int32))), .val (.int kb), .val (.int fa), .val (.int fb), .val (.int sb), .val (.long tb), .second, .val (.ref b6), .val (.ref b15), .val (.int (0 : Int32)), .val (.ref b15), .val (.int ex), .val (.int (own_eq (own_kd (p0 &&& (3 : Int32)) w_ELECTION w_REPLY w_RELEASE w_HEARTBEAT) (own_kd kb w_ELECTION w_REPLY w_RELEASE w_HEARTBEAT) p1 sb p3 tb fa fb)), .unset, .unset]) rfl k) ?_
                show own_Fin p e below _ (T25.setTop (mkF m 230 #[.val (.int p0), .val (.int p1), .val (.int p2), .val (.long p3), .second, .val (.long p4), .second, .val (.int p5), .val (.int (p0 &&& (3 : Int32))), .val (.int kb), .val (.int fa), .val (.int fb), .val (.int sb), .val (.long tb), .second, .val (.ref b6), .val (.ref b15), .val (.int (0 : Int32)), .val (.ref b15), .val (.int ex), .val (.int (own_eq (own_kd (p0 &&& (3 : Int32)) w_ELECTION w_REPLY w_RELEASE w_HEARTBEAT) (own_kd kb w_ELECTION w_REPLY w_RELEASE w_HEARTBEAT) p1 sb p3 tb fa fb)), .unset, .unset] []))
                refine own_st (fun t k => XS.aload X25.here hx rfl (hb hby at_230) rfl rfl k) ?_
                show own_Fin p e below _ (T25.setTop (mkF m 232 #[.val (.int p0), .val (.int p1), .val (.int p2), .val (.long p3), .second, .val (.long p4), .second, .val (.int p5), .val (.int (p0 &&& (3 : Int32))), .val (.int kb), .val (.int fa), .val (.int fb), .val (.int sb), .val (.long tb), .second, .val (.ref b6), .val (.ref b15), .val (.int (0 : Int32)), .val (.ref b15), .val (.int ex), .val (.int (own_eq (own_kd (p0 &&& (3 : Int32)) w_ELECTION w_REPLY w_RELEASE w_HEARTBEAT) (own_kd kb w_ELECTION w_REPLY w_RELEASE w_HEARTBEAT) p1 sb p3 tb fa fb)), .unset, .unset] [(.ref b6)]))
                refine own_st (fun t k => XS.aload X25.here hx rfl (hb hby at_232) rfl rfl k) ?_
                show own_Fin p e below _ (T25.setTop (mkF m 234 #[.val (.int p0), .val (.int p1), .val (.int p2), .val (.long p3), .second, .val (.long p4), .second, .val (.int p5), .val (.int (p0 &&& (3 : Int32))), .val (.int kb), .val (.int fa), .val (.int fb), .val (.int sb), .val (.long tb), .second, .val (.ref b6), .val (.ref b15), .val (.int (0 : Int32)), .val (.ref b15), .val (.int ex), .val (.int (own_eq (own_kd (p0 &&& (3 : Int32)) w_ELECTION w_REPLY w_RELEASE w_HEARTBEAT) (own_kd kb w_ELECTION w_REPLY w_RELEASE w_HEARTBEAT) p1 sb p3 tb fa fb)), .unset, .unset] [(.ref b6), (.ref b6)]))
                obtain ⟨cq32, kq32, q32a, q32b, q32c⟩ := isOf hZ e25 F26
                obtain ⟨_, _, ⟨T32, L32, k32, n32⟩, -, X32, ⟨Lc32, hQ32, l32, y32, z32⟩, st32⟩ := X25.virtualBack hx (y := (⟨"com/example/deioces/deioces/Message", "equals", "(Ljava/lang/Object;)Z"⟩ : MethodName)) (z := (⟨"com/example/deioces/deioces/Message", "equals", "(Ljava/lang/Object;)Z"⟩ : MethodName)) hown (mvT hZ (hw _ (List.mem_of_getElem? (i := 24) rfl))) (mvT hZ (hw _ (List.mem_of_getElem? (i := 25) rfl))) (notFace_of_selects (args := #[]) (mvT hZ (hw _ (List.mem_of_getElem? (i := 27) rfl)))) (mvT hZ (hw _ (List.mem_of_getElem? (i := 27) rfl))) (mvT hZ (hw _ (List.mem_of_getElem? (i := 26) rfl))) (by decide) (backOf (W := 0) (rm4_4 l Z a0 hw [] b6 (own_kd (p0 &&& (3 : Int32)) w_ELECTION w_REPLY w_RELEASE w_HEARTBEAT) p1 p3 fa T22.heap n0 Z23 F26 F28 F29 F30 hfa F31) hZ (hw _ (List.mem_of_getElem? (i := 28) rfl)) (hw _ (List.mem_of_getElem? (i := 2) rfl)) (by decide) (by decide)) q32a q32c (g := (mkF m 234 #[.val (.int p0), .val (.int p1), .val (.int p2), .val (.long p3), .second, .val (.long p4), .second, .val (.int p5), .val (.int (p0 &&& (3 : Int32))), .val (.int kb), .val (.int fa), .val (.int fb), .val (.int sb), .val (.long tb), .second, .val (.ref b6), .val (.ref b15), .val (.int (0 : Int32)), .val (.ref b15), .val (.int ex), .val (.int (own_eq (own_kd (p0 &&& (3 : Int32)) w_ELECTION w_REPLY w_RELEASE w_HEARTBEAT) (own_kd kb w_ELECTION w_REPLY w_RELEASE w_HEARTBEAT) p1 sb p3 tb fa fb)), .unset, .unset] [(.ref b6), (.ref b6)])) rfl (by rw [hml]; rfl) (Steps.refl _) (argsL := [(.ref b6)]) (rest := []) (lenOf pd__Ljava_lang_Object__Z rfl) rfl (by show 2 * 0 + _ ≤ _; exact Nat.le_of_eq rfl) (hb hby at_234) (fun _ _ => ⟨rfl, e25, (by decide : 2 + 0 ≤ _), (by decide : 8 + 0 ≤ _)⟩)
                dsimp only [Pt.U, Pt.locs, Pt.cells, Pt.slots] at X32 l32 y32 z32 st32 hQ32
                subst l32 y32 z32
                obtain ⟨rfl, N32q, e32⟩ := hQ32
                have N32 := Fr.app N25 N32q
                refine own_tr st32 ?_
                show own_Fin p e below _ (T32.setTop (mkF m 237 #[.val (.int p0), .val (.int p1), .val (.int p2), .val (.long p3), .second, .val (.long p4), .second, .val (.int p5), .val (.int (p0 &&& (3 : Int32))), .val (.int kb), .val (.int fa), .val (.int fb), .val (.int sb), .val (.long tb), .second, .val (.ref b6), .val (.ref b15), .val (.int (0 : Int32)), .val (.ref b15), .val (.int ex), .val (.int (own_eq (own_kd (p0 &&& (3 : Int32)) w_ELECTION w_REPLY w_RELEASE w_HEARTBEAT) (own_kd kb w_ELECTION w_REPLY w_RELEASE w_HEARTBEAT) p1 sb p3 tb fa fb)), .unset, .unset] [(.int (1 : Int32))]))
                refine own_st (fun t k => XS.istore X32.here hx rfl (hb hby at_237) rfl (l' := #[.val (.int p0), .val (.int p1), .val (.int p2), .val (.long p3), .second, .val (.long p4), .second, .val (.int p5), .val (.int (p0 &&& (3 : Int32))), .val (.int kb), .val (.int fa), .val (.int fb), .val (.int sb), .val (.long tb), .second, .val (.ref b6), .val (.ref b15), .val (.int (0 : Int32)), .val (.ref b15), .val (.int ex), .val (.int (own_eq (own_kd (p0 &&& (3 : Int32)) w_ELECTION w_REPLY w_RELEASE w_HEARTBEAT) (own_kd kb w_ELECTION w_REPLY w_RELEASE w_HEARTBEAT) p1 sb p3 tb fa fb)), .val (.int (1 : Int32)), .unset]) rfl k) ?_
                show own_Fin p e below _ (T32.setTop (mkF m 239 #[.val (.int p0), .val (.int p1), .val (.int p2), .val (.long p3), .second, .val (.long p4), .second, .val (.int p5), .val (.int (p0 &&& (3 : Int32))), .val (.int kb), .val (.int fa), .val (.int fb), .val (.int sb), .val (.long tb), .second, .val (.ref b6), .val (.ref b15), .val (.int (0 : Int32)), .val (.ref b15), .val (.int ex), .val (.int (own_eq (own_kd (p0 &&& (3 : Int32)) w_ELECTION w_REPLY w_RELEASE w_HEARTBEAT) (own_kd kb w_ELECTION w_REPLY w_RELEASE w_HEARTBEAT) p1 sb p3 tb fa fb)), .val (.int (1 : Int32)), .unset] []))
                refine own_st (fun t k => XS.iconst X32.here hx rfl (hb hby at_239) k) ?_
                show own_Fin p e below _ (T32.setTop (mkF m 240 #[.val (.int p0), .val (.int p1), .val (.int p2), .val (.long p3), .second, .val (.long p4), .second, .val (.int p5), .val (.int (p0 &&& (3 : Int32))), .val (.int kb), .val (.int fa), .val (.int fb), .val (.int sb), .val (.long tb), .second, .val (.ref b6), .val (.ref b15), .val (.int (0 : Int32)), .val (.ref b15), .val (.int ex), .val (.int (own_eq (own_kd (p0 &&& (3 : Int32)) w_ELECTION w_REPLY w_RELEASE w_HEARTBEAT) (own_kd kb w_ELECTION w_REPLY w_RELEASE w_HEARTBEAT) p1 sb p3 tb fa fb)), .val (.int (1 : Int32)), .unset] [(.int (1 : Int32))]))
                refine own_st (fun t k => XS.istore X32.here hx rfl (hb hby at_240) rfl (l' := #[.val (.int p0), .val (.int p1), .val (.int p2), .val (.long p3), .second, .val (.long p4), .second, .val (.int p5), .val (.int (p0 &&& (3 : Int32))), .val (.int kb), .val (.int fa), .val (.int fb), .val (.int sb), .val (.long tb), .second, .val (.ref b6), .val (.ref b15), .val (.int (0 : Int32)), .val (.ref b15), .val (.int ex), .val (.int (own_eq (own_kd (p0 &&& (3 : Int32)) w_ELECTION w_REPLY w_RELEASE w_HEARTBEAT) (own_kd kb w_ELECTION w_REPLY w_RELEASE w_HEARTBEAT) p1 sb p3 tb fa fb)), .val (.int (1 : Int32)), .val (.int (1 : Int32))]) rfl k) ?_
                show own_Fin p e below _ (T32.setTop (mkF m 242 #[.val (.int p0), .val (.int p1), .val (.int p2), .val (.long p3), .second, .val (.long p4), .second, .val (.int p5), .val (.int (p0 &&& (3 : Int32))), .val (.int kb), .val (.int fa), .val (.int fb), .val (.int sb), .val (.long tb), .second, .val (.ref b6), .val (.ref b15), .val (.int (0 : Int32)), .val (.ref b15), .val (.int ex), .val (.int (own_eq (own_kd (p0 &&& (3 : Int32)) w_ELECTION w_REPLY w_RELEASE w_HEARTBEAT) (own_kd kb w_ELECTION w_REPLY w_RELEASE w_HEARTBEAT) p1 sb p3 tb fa fb)), .val (.int (1 : Int32)), .val (.int (1 : Int32))] []))
                refine own_st (fun t k => XS.iload X32.here hx rfl (hb hby at_242) rfl k) ?_
                show own_Fin p e below _ (T32.setTop (mkF m 244 #[.val (.int p0), .val (.int p1), .val (.int p2), .val (.long p3), .second, .val (.long p4), .second, .val (.int p5), .val (.int (p0 &&& (3 : Int32))), .val (.int kb), .val (.int fa), .val (.int fb), .val (.int sb), .val (.long tb), .second, .val (.ref b6), .val (.ref b15), .val (.int (0 : Int32)), .val (.ref b15), .val (.int ex), .val (.int (own_eq (own_kd (p0 &&& (3 : Int32)) w_ELECTION w_REPLY w_RELEASE w_HEARTBEAT) (own_kd kb w_ELECTION w_REPLY w_RELEASE w_HEARTBEAT) p1 sb p3 tb fa fb)), .val (.int (1 : Int32)), .val (.int (1 : Int32))] [(.int (0 : Int32))]))
                refine own_st (fun t k => XS.iconst X32.here hx rfl (hb hby at_244) k) ?_
                show own_Fin p e below _ (T32.setTop (mkF m 245 #[.val (.int p0), .val (.int p1), .val (.int p2), .val (.long p3), .second, .val (.long p4), .second, .val (.int p5), .val (.int (p0 &&& (3 : Int32))), .val (.int kb), .val (.int fa), .val (.int fb), .val (.int sb), .val (.long tb), .second, .val (.ref b6), .val (.ref b15), .val (.int (0 : Int32)), .val (.ref b15), .val (.int ex), .val (.int (own_eq (own_kd (p0 &&& (3 : Int32)) w_ELECTION w_REPLY w_RELEASE w_HEARTBEAT) (own_kd kb w_ELECTION w_REPLY w_RELEASE w_HEARTBEAT) p1 sb p3 tb fa fb)), .val (.int (1 : Int32)), .val (.int (1 : Int32))] [(.int (2 : Int32)), (.int (0 : Int32))]))
                refine own_st (fun t k => XS.icmpNo X32.here hx rfl (hb hby at_245) rfl (by decide) k) ?_
                show own_Fin p e below _ (T32.setTop (mkF m 248 #[.val (.int p0), .val (.int p1), .val (.int p2), .val (.long p3), .second, .val (.long p4), .second, .val (.int p5), .val (.int (p0 &&& (3 : Int32))), .val (.int kb), .val (.int fa), .val (.int fb), .val (.int sb), .val (.long tb), .second, .val (.ref b6), .val (.ref b15), .val (.int (0 : Int32)), .val (.ref b15), .val (.int ex), .val (.int (own_eq (own_kd (p0 &&& (3 : Int32)) w_ELECTION w_REPLY w_RELEASE w_HEARTBEAT) (own_kd kb w_ELECTION w_REPLY w_RELEASE w_HEARTBEAT) p1 sb p3 tb fa fb)), .val (.int (1 : Int32)), .val (.int (1 : Int32))] []))
                refine own_st (fun t k => XS.aload X32.here hx rfl (hb hby at_248) rfl rfl k) ?_
                show own_Fin p e below _ (T32.setTop (mkF m 250 #[.val (.int p0), .val (.int p1), .val (.int p2), .val (.long p3), .second, .val (.long p4), .second, .val (.int p5), .val (.int (p0 &&& (3 : Int32))), .val (.int kb), .val (.int fa), .val (.int fb), .val (.int sb), .val (.long tb), .second, .val (.ref b6), .val (.ref b15), .val (.int (0 : Int32)), .val (.ref b15), .val (.int ex), .val (.int (own_eq (own_kd (p0 &&& (3 : Int32)) w_ELECTION w_REPLY w_RELEASE w_HEARTBEAT) (own_kd kb w_ELECTION w_REPLY w_RELEASE w_HEARTBEAT) p1 sb p3 tb fa fb)), .val (.int (1 : Int32)), .val (.int (1 : Int32))] [(.ref b15)]))
                refine own_st (fun t k => XS.aload X32.here hx rfl (hb hby at_250) rfl rfl k) ?_
                show own_Fin p e below _ (T32.setTop (mkF m 252 #[.val (.int p0), .val (.int p1), .val (.int p2), .val (.long p3), .second, .val (.long p4), .second, .val (.int p5), .val (.int (p0 &&& (3 : Int32))), .val (.int kb), .val (.int fa), .val (.int fb), .val (.int sb), .val (.long tb), .second, .val (.ref b6), .val (.ref b15), .val (.int (0 : Int32)), .val (.ref b15), .val (.int ex), .val (.int (own_eq (own_kd (p0 &&& (3 : Int32)) w_ELECTION w_REPLY w_RELEASE w_HEARTBEAT) (own_kd kb w_ELECTION w_REPLY w_RELEASE w_HEARTBEAT) p1 sb p3 tb fa fb)), .val (.int (1 : Int32)), .val (.int (1 : Int32))] [(.ref b6), (.ref b15)]))
                obtain ⟨cq33, kq33, q33a, q33b, q33c⟩ := isOf hZ e32 F27
                obtain ⟨_, _, ⟨T33, L33, k33, n33⟩, -, X33, ⟨Lc33, hQ33, l33, y33, z33⟩, st33⟩ := X32.virtualBack hx (y := (⟨"com/example/deioces/deioces/Message", "equals", "(Ljava/lang/Object;)Z"⟩ : MethodName)) (z := (⟨"com/example/deioces/deioces/Message", "equals", "(Ljava/lang/Object;)Z"⟩ : MethodName)) hown (mvT hZ (hw _ (List.mem_of_getElem? (i := 24) rfl))) (mvT hZ (hw _ (List.mem_of_getElem? (i := 25) rfl))) (notFace_of_selects (args := #[]) (mvT hZ (hw _ (List.mem_of_getElem? (i := 27) rfl)))) (mvT hZ (hw _ (List.mem_of_getElem? (i := 27) rfl))) (mvT hZ (hw _ (List.mem_of_getElem? (i := 26) rfl))) (by decide) (backOf (W := 0) (rm4_5 l Z a0 hw [] b15 b6 (own_kd kb w_ELECTION w_REPLY w_RELEASE w_HEARTBEAT) (own_kd (p0 &&& (3 : Int32)) w_ELECTION w_REPLY w_RELEASE w_HEARTBEAT) sb p1 tb p3 fb fa T22.heap n0 Z23 F26 G22_0 F28 G22_1 F29 G22_2 F30 hfb G22_3 hfa F31) hZ (hw _ (List.mem_of_getElem? (i := 28) rfl)) (hw _ (List.mem_of_getElem? (i := 2) rfl)) (by decide) (by decide)) q33a q33c (g := (mkF m 252 #[.val (.int p0), .val (.int p1), .val (.int p2), .val (.long p3), .second, .val (.long p4), .second, .val (.int p5), .val (.int (p0 &&& (3 : Int32))), .val (.int kb), .val (.int fa), .val (.int fb), .val (.int sb), .val (.long tb), .second, .val (.ref b6), .val (.ref b15), .val (.int (0 : Int32)), .val (.ref b15), .val (.int ex), .val (.int (own_eq (own_kd (p0 &&& (3 : Int32)) w_ELECTION w_REPLY w_RELEASE w_HEARTBEAT) (own_kd kb w_ELECTION w_REPLY w_RELEASE w_HEARTBEAT) p1 sb p3 tb fa fb)), .val (.int (1 : Int32)), .val (.int (1 : Int32))] [(.ref b6), (.ref b15)])) rfl (by rw [hml]; rfl) (Steps.refl _) (argsL := [(.ref b6)]) (rest := []) (lenOf pd__Ljava_lang_Object__Z rfl) rfl (by show 2 * 0 + _ ≤ _; exact Nat.le_of_eq rfl) (hb hby at_252) (fun _ _ => ⟨rfl, e32, (by decide : 2 + 0 ≤ _), (by decide : 8 + 0 ≤ _)⟩)
                dsimp only [Pt.U, Pt.locs, Pt.cells, Pt.slots] at X33 l33 y33 z33 st33 hQ33
                subst l33 y33 z33
                obtain ⟨rfl, N33q, e33⟩ := hQ33
                have N33 := Fr.app N32 N33q
                refine own_tr st33 ?_
                show own_Fin p e below _ (T33.setTop (mkF m 255 #[.val (.int p0), .val (.int p1), .val (.int p2), .val (.long p3), .second, .val (.long p4), .second, .val (.int p5), .val (.int (p0 &&& (3 : Int32))), .val (.int kb), .val (.int fa), .val (.int fb), .val (.int sb), .val (.long tb), .second, .val (.ref b6), .val (.ref b15), .val (.int (0 : Int32)), .val (.ref b15), .val (.int ex), .val (.int (own_eq (own_kd (p0 &&& (3 : Int32)) w_ELECTION w_REPLY w_RELEASE w_HEARTBEAT) (own_kd kb w_ELECTION w_REPLY w_RELEASE w_HEARTBEAT) p1 sb p3 tb fa fb)), .val (.int (1 : Int32)), .val (.int (1 : Int32))] [(.int (own_eq (own_kd kb w_ELECTION w_REPLY w_RELEASE w_HEARTBEAT) (own_kd (p0 &&& (3 : Int32)) w_ELECTION w_REPLY w_RELEASE w_HEARTBEAT) sb p1 tb p3 fb fa))]))
                refine own_st (fun t k => XS.iload X33.here hx rfl (hb hby at_255) rfl k) ?_
                show own_Fin p e below _ (T33.setTop (mkF m 257 #[.val (.int p0), .val (.int p1), .val (.int p2), .val (.long p3), .second, .val (.long p4), .second, .val (.int p5), .val (.int (p0 &&& (3 : Int32))), .val (.int kb), .val (.int fa), .val (.int fb), .val (.int sb), .val (.long tb), .second, .val (.ref b6), .val (.ref b15), .val (.int (0 : Int32)), .val (.ref b15), .val (.int ex), .val (.int (own_eq (own_kd (p0 &&& (3 : Int32)) w_ELECTION w_REPLY w_RELEASE w_HEARTBEAT) (own_kd kb w_ELECTION w_REPLY w_RELEASE w_HEARTBEAT) p1 sb p3 tb fa fb)), .val (.int (1 : Int32)), .val (.int (1 : Int32))] [(.int (own_eq (own_kd (p0 &&& (3 : Int32)) w_ELECTION w_REPLY w_RELEASE w_HEARTBEAT) (own_kd kb w_ELECTION w_REPLY w_RELEASE w_HEARTBEAT) p1 sb p3 tb fa fb)), (.int (own_eq (own_kd kb w_ELECTION w_REPLY w_RELEASE w_HEARTBEAT) (own_kd (p0 &&& (3 : Int32)) w_ELECTION w_REPLY w_RELEASE w_HEARTBEAT) sb p1 tb p3 fb fa))]))
                have qS : (own_eq (own_kd kb w_ELECTION w_REPLY w_RELEASE w_HEARTBEAT) (own_kd (p0 &&& (3 : Int32)) w_ELECTION w_REPLY w_RELEASE w_HEARTBEAT) sb p1 tb p3 fb fa) = (own_eq (own_kd (p0 &&& (3 : Int32)) w_ELECTION w_REPLY w_RELEASE w_HEARTBEAT) (own_kd kb w_ELECTION w_REPLY w_RELEASE w_HEARTBEAT) p1 sb p3 tb fa fb) := own_eq_comm _ _ _ _ _ _ _ _
                refine own_st (fun t k => XS.icmpNo X33.here hx rfl (hb hby at_257) rfl (teq qS).2 k) ?_
                show own_Fin p e below _ (T33.setTop (mkF m 260 #[.val (.int p0), .val (.int p1), .val (.int p2), .val (.long p3), .second, .val (.long p4), .second, .val (.int p5), .val (.int (p0 &&& (3 : Int32))), .val (.int kb), .val (.int fa), .val (.int fb), .val (.int sb), .val (.long tb), .second, .val (.ref b6), .val (.ref b15), .val (.int (0 : Int32)), .val (.ref b15), .val (.int ex), .val (.int (own_eq (own_kd (p0 &&& (3 : Int32)) w_ELECTION w_REPLY w_RELEASE w_HEARTBEAT) (own_kd kb w_ELECTION w_REPLY w_RELEASE w_HEARTBEAT) p1 sb p3 tb fa fb)), .val (.int (1 : Int32)), .val (.int (1 : Int32))] []))
                refine own_st (fun t k => XS.iconst X33.here hx rfl (hb hby at_260) k) ?_
                show own_Fin p e below _ (T33.setTop (mkF m 261 #[.val (.int p0), .val (.int p1), .val (.int p2), .val (.long p3), .second, .val (.long p4), .second, .val (.int p5), .val (.int (p0 &&& (3 : Int32))), .val (.int kb), .val (.int fa), .val (.int fb), .val (.int sb), .val (.long tb), .second, .val (.ref b6), .val (.ref b15), .val (.int (0 : Int32)), .val (.ref b15), .val (.int ex), .val (.int (own_eq (own_kd (p0 &&& (3 : Int32)) w_ELECTION w_REPLY w_RELEASE w_HEARTBEAT) (own_kd kb w_ELECTION w_REPLY w_RELEASE w_HEARTBEAT) p1 sb p3 tb fa fb)), .val (.int (1 : Int32)), .val (.int (1 : Int32))] [(.int (1 : Int32))]))
                refine own_st (fun t k => XS.goto X33.here hx rfl (pc0 := 261) (pc' := 265) rfl (hb hby at_261) (by decide) (by decide) k) ?_
                show own_Fin p e below _ (T33.setTop (mkF m 265 #[.val (.int p0), .val (.int p1), .val (.int p2), .val (.long p3), .second, .val (.long p4), .second, .val (.int p5), .val (.int (p0 &&& (3 : Int32))), .val (.int kb), .val (.int fa), .val (.int fb), .val (.int sb), .val (.long tb), .second, .val (.ref b6), .val (.ref b15), .val (.int (0 : Int32)), .val (.ref b15), .val (.int ex), .val (.int (own_eq (own_kd (p0 &&& (3 : Int32)) w_ELECTION w_REPLY w_RELEASE w_HEARTBEAT) (own_kd kb w_ELECTION w_REPLY w_RELEASE w_HEARTBEAT) p1 sb p3 tb fa fb)), .val (.int (1 : Int32)), .val (.int (1 : Int32))] [(.int (1 : Int32))]))
                refine own_st (fun t k => XS.istore X33.here hx rfl (hb hby at_265) rfl (l' := #[.val (.int p0), .val (.int p1), .val (.int p2), .val (.long p3), .second, .val (.long p4), .second, .val (.int p5), .val (.int (p0 &&& (3 : Int32))), .val (.int kb), .val (.int fa), .val (.int fb), .val (.int sb), .val (.long tb), .second, .val (.ref b6), .val (.ref b15), .val (.int (0 : Int32)), .val (.ref b15), .val (.int ex), .val (.int (own_eq (own_kd (p0 &&& (3 : Int32)) w_ELECTION w_REPLY w_RELEASE w_HEARTBEAT) (own_kd kb w_ELECTION w_REPLY w_RELEASE w_HEARTBEAT) p1 sb p3 tb fa fb)), .val (.int (1 : Int32)), .val (.int (1 : Int32))]) rfl k) ?_
                show own_Fin p e below _ (T33.setTop (mkF m 267 #[.val (.int p0), .val (.int p1), .val (.int p2), .val (.long p3), .second, .val (.long p4), .second, .val (.int p5), .val (.int (p0 &&& (3 : Int32))), .val (.int kb), .val (.int fa), .val (.int fb), .val (.int sb), .val (.long tb), .second, .val (.ref b6), .val (.ref b15), .val (.int (0 : Int32)), .val (.ref b15), .val (.int ex), .val (.int (own_eq (own_kd (p0 &&& (3 : Int32)) w_ELECTION w_REPLY w_RELEASE w_HEARTBEAT) (own_kd kb w_ELECTION w_REPLY w_RELEASE w_HEARTBEAT) p1 sb p3 tb fa fb)), .val (.int (1 : Int32)), .val (.int (1 : Int32))] []))
                refine own_st (fun t k => XS.iload X33.here hx rfl (hb hby at_267) rfl k) ?_
                show own_Fin p e below _ (T33.setTop (mkF m 269 #[.val (.int p0), .val (.int p1), .val (.int p2), .val (.long p3), .second, .val (.long p4), .second, .val (.int p5), .val (.int (p0 &&& (3 : Int32))), .val (.int kb), .val (.int fa), .val (.int fb), .val (.int sb), .val (.long tb), .second, .val (.ref b6), .val (.ref b15), .val (.int (0 : Int32)), .val (.ref b15), .val (.int ex), .val (.int (own_eq (own_kd (p0 &&& (3 : Int32)) w_ELECTION w_REPLY w_RELEASE w_HEARTBEAT) (own_kd kb w_ELECTION w_REPLY w_RELEASE w_HEARTBEAT) p1 sb p3 tb fa fb)), .val (.int (1 : Int32)), .val (.int (1 : Int32))] [(.int (own_eq (own_kd (p0 &&& (3 : Int32)) w_ELECTION w_REPLY w_RELEASE w_HEARTBEAT) (own_kd kb w_ELECTION w_REPLY w_RELEASE w_HEARTBEAT) p1 sb p3 tb fa fb))]))
                refine own_st (fun t k => XS.iload X33.here hx rfl (hb hby at_269) rfl k) ?_
                show own_Fin p e below _ (T33.setTop (mkF m 271 #[.val (.int p0), .val (.int p1), .val (.int p2), .val (.long p3), .second, .val (.long p4), .second, .val (.int p5), .val (.int (p0 &&& (3 : Int32))), .val (.int kb), .val (.int fa), .val (.int fb), .val (.int sb), .val (.long tb), .second, .val (.ref b6), .val (.ref b15), .val (.int (0 : Int32)), .val (.ref b15), .val (.int ex), .val (.int (own_eq (own_kd (p0 &&& (3 : Int32)) w_ELECTION w_REPLY w_RELEASE w_HEARTBEAT) (own_kd kb w_ELECTION w_REPLY w_RELEASE w_HEARTBEAT) p1 sb p3 tb fa fb)), .val (.int (1 : Int32)), .val (.int (1 : Int32))] [(.int ex), (.int (own_eq (own_kd (p0 &&& (3 : Int32)) w_ELECTION w_REPLY w_RELEASE w_HEARTBEAT) (own_kd kb w_ELECTION w_REPLY w_RELEASE w_HEARTBEAT) p1 sb p3 tb fa fb))]))
                have F34 : Fld Z T22.heap w_ELECTION "java/lang/Enum" "ordinal" "I" (.int (0 : Int32)) := ((((F_ELECTION_ordinal.ext E6).keep K13q (ninS (Nat.ne_of_lt (Nat.lt_of_lt_of_le E_ELECTION.lt le_b6)) nin0)).ext E15).keep K22q (ninS (Nat.ne_of_lt (Nat.lt_of_lt_of_le ((E_ELECTION.ext E6).keep K13q).lt le_b15)) nin0))
                have F35 : Fld Z T22.heap w_REPLY "java/lang/Enum" "ordinal" "I" (.int (1 : Int32)) := ((((F_REPLY_ordinal.ext E6).keep K13q (ninS (Nat.ne_of_lt (Nat.lt_of_lt_of_le E_REPLY.lt le_b6)) nin0)).ext E15).keep K22q (ninS (Nat.ne_of_lt (Nat.lt_of_lt_of_le ((E_REPLY.ext E6).keep K13q).lt le_b15)) nin0))
                have D36 : w_ELECTION ≠ w_REPLY := (Fld.ne F34 F35 (by simp))
                have F37 : Fld Z T22.heap w_RELEASE "java/lang/Enum" "ordinal" "I" (.int (2 : Int32)) := ((((F_RELEASE_ordinal.ext E6).keep K13q (ninS (Nat.ne_of_lt (Nat.lt_of_lt_of_le E_RELEASE.lt le_b6)) nin0)).ext E15).keep K22q (ninS (Nat.ne_of_lt (Nat.lt_of_lt_of_le ((E_RELEASE.ext E6).keep K13q).lt le_b15)) nin0))
                have D38 : w_ELECTION ≠ w_RELEASE := (Fld.ne F34 F37 (by simp))
                have F39 : Fld Z T22.heap w_HEARTBEAT "java/lang/Enum" "ordinal" "I" (.int (3 : Int32)) := ((((F_HEARTBEAT_ordinal.ext E6).keep K13q (ninS (Nat.ne_of_lt (Nat.lt_of_lt_of_le E_HEARTBEAT.lt le_b6)) nin0)).ext E15).keep K22q (ninS (Nat.ne_of_lt (Nat.lt_of_lt_of_le ((E_HEARTBEAT.ext E6).keep K13q).lt le_b15)) nin0))
                have D40 : w_ELECTION ≠ w_HEARTBEAT := (Fld.ne F34 F39 (by simp))
                have D41 : w_REPLY ≠ w_RELEASE := (Fld.ne F35 F37 (by simp))
                have D42 : w_REPLY ≠ w_HEARTBEAT := (Fld.ne F35 F39 (by simp))
                have D43 : w_RELEASE ≠ w_HEARTBEAT := (Fld.ne F37 F39 (by simp))
                have qG : (own_eq (own_kd (p0 &&& (3 : Int32)) w_ELECTION w_REPLY w_RELEASE w_HEARTBEAT) (own_kd kb w_ELECTION w_REPLY w_RELEASE w_HEARTBEAT) p1 sb p3 tb fa fb) = ex := (own_got (own_kd_inj (own_mask4 _) hkb D36 D38 D40 D41 D42 D43) _ _ _ _ _ _).trans hex.symm
                refine own_st (fun t k => XS.icmpNo X33.here hx rfl (hb hby at_271) rfl (teq qG).2 k) ?_
                show own_Fin p e below _ (T33.setTop (mkF m 274 #[.val (.int p0), .val (.int p1), .val (.int p2), .val (.long p3), .second, .val (.long p4), .second, .val (.int p5), .val (.int (p0 &&& (3 : Int32))), .val (.int kb), .val (.int fa), .val (.int fb), .val (.int sb), .val (.long tb), .second, .val (.ref b6), .val (.ref b15), .val (.int (0 : Int32)), .val (.ref b15), .val (.int ex), .val (.int (own_eq (own_kd (p0 &&& (3 : Int32)) w_ELECTION w_REPLY w_RELEASE w_HEARTBEAT) (own_kd kb w_ELECTION w_REPLY w_RELEASE w_HEARTBEAT) p1 sb p3 tb fa fb)), .val (.int (1 : Int32)), .val (.int (1 : Int32))] []))
                refine own_st (fun t k => XS.iload X33.here hx rfl (hb hby at_274) rfl k) ?_
                show own_Fin p e below _ (T33.setTop (mkF m 276 #[.val (.int p0), .val (.int p1), .val (.int p2), .val (.long p3), .second, .val (.long p4), .second, .val (.int p5), .val (.int (p0 &&& (3 : Int32))), .val (.int kb), .val (.int fa), .val (.int fb), .val (.int sb), .val (.long tb), .second, .val (.ref b6), .val (.ref b15), .val (.int (0 : Int32)), .val (.ref b15), .val (.int ex), .val (.int (own_eq (own_kd (p0 &&& (3 : Int32)) w_ELECTION w_REPLY w_RELEASE w_HEARTBEAT) (own_kd kb w_ELECTION w_REPLY w_RELEASE w_HEARTBEAT) p1 sb p3 tb fa fb)), .val (.int (1 : Int32)), .val (.int (1 : Int32))] [(.int (1 : Int32))]))
                refine own_st (fun t k => XS.ifNo X33.here hx rfl (hb hby at_276) rfl (by decide) k) ?_
                show own_Fin p e below _ (T33.setTop (mkF m 279 #[.val (.int p0), .val (.int p1), .val (.int p2), .val (.long p3), .second, .val (.long p4), .second, .val (.int p5), .val (.int (p0 &&& (3 : Int32))), .val (.int kb), .val (.int fa), .val (.int fb), .val (.int sb), .val (.long tb), .second, .val (.ref b6), .val (.ref b15), .val (.int (0 : Int32)), .val (.ref b15), .val (.int ex), .val (.int (own_eq (own_kd (p0 &&& (3 : Int32)) w_ELECTION w_REPLY w_RELEASE w_HEARTBEAT) (own_kd kb w_ELECTION w_REPLY w_RELEASE w_HEARTBEAT) p1 sb p3 tb fa fb)), .val (.int (1 : Int32)), .val (.int (1 : Int32))] []))
                refine own_st (fun t k => XS.iload X33.here hx rfl (hb hby at_279) rfl k) ?_
                show own_Fin p e below _ (T33.setTop (mkF m 281 #[.val (.int p0), .val (.int p1), .val (.int p2), .val (.long p3), .second, .val (.long p4), .second, .val (.int p5), .val (.int (p0 &&& (3 : Int32))), .val (.int kb), .val (.int fa), .val (.int fb), .val (.int sb), .val (.long tb), .second, .val (.ref b6), .val (.ref b15), .val (.int (0 : Int32)), .val (.ref b15), .val (.int ex), .val (.int (own_eq (own_kd (p0 &&& (3 : Int32)) w_ELECTION w_REPLY w_RELEASE w_HEARTBEAT) (own_kd kb w_ELECTION w_REPLY w_RELEASE w_HEARTBEAT) p1 sb p3 tb fa fb)), .val (.int (1 : Int32)), .val (.int (1 : Int32))] [(.int (1 : Int32))]))
                refine own_st (fun t k => XS.ifNo X33.here hx rfl (hb hby at_281) rfl (by decide) k) ?_
                show own_Fin p e below _ (T33.setTop (mkF m 284 #[.val (.int p0), .val (.int p1), .val (.int p2), .val (.long p3), .second, .val (.long p4), .second, .val (.int p5), .val (.int (p0 &&& (3 : Int32))), .val (.int kb), .val (.int fa), .val (.int fb), .val (.int sb), .val (.long tb), .second, .val (.ref b6), .val (.ref b15), .val (.int (0 : Int32)), .val (.ref b15), .val (.int ex), .val (.int (own_eq (own_kd (p0 &&& (3 : Int32)) w_ELECTION w_REPLY w_RELEASE w_HEARTBEAT) (own_kd kb w_ELECTION w_REPLY w_RELEASE w_HEARTBEAT) p1 sb p3 tb fa fb)), .val (.int (1 : Int32)), .val (.int (1 : Int32))] []))
                refine own_st (fun t k => XS.iconst X33.here hx rfl (hb hby at_284) k) ?_
                show own_Fin p e below _ (T33.setTop (mkF m 285 #[.val (.int p0), .val (.int p1), .val (.int p2), .val (.long p3), .second, .val (.long p4), .second, .val (.int p5), .val (.int (p0 &&& (3 : Int32))), .val (.int kb), .val (.int fa), .val (.int fb), .val (.int sb), .val (.long tb), .second, .val (.ref b6), .val (.ref b15), .val (.int (0 : Int32)), .val (.ref b15), .val (.int ex), .val (.int (own_eq (own_kd (p0 &&& (3 : Int32)) w_ELECTION w_REPLY w_RELEASE w_HEARTBEAT) (own_kd kb w_ELECTION w_REPLY w_RELEASE w_HEARTBEAT) p1 sb p3 tb fa fb)), .val (.int (1 : Int32)), .val (.int (1 : Int32))] [(.int (1 : Int32))]))
                refine own_st (fun t k => XS.goto X33.here hx rfl (pc0 := 285) (pc' := 289) rfl (hb hby at_285) (by decide) (by decide) k) ?_
                show own_Fin p e below _ (T33.setTop (mkF m 289 #[.val (.int p0), .val (.int p1), .val (.int p2), .val (.long p3), .second, .val (.long p4), .second, .val (.int p5), .val (.int (p0 &&& (3 : Int32))), .val (.int kb), .val (.int fa), .val (.int fb), .val (.int sb), .val (.long tb), .second, .val (.ref b6), .val (.ref b15), .val (.int (0 : Int32)), .val (.ref b15), .val (.int ex), .val (.int (own_eq (own_kd (p0 &&& (3 : Int32)) w_ELECTION w_REPLY w_RELEASE w_HEARTBEAT) (own_kd kb w_ELECTION w_REPLY w_RELEASE w_HEARTBEAT) p1 sb p3 tb fa fb)), .val (.int (1 : Int32)), .val (.int (1 : Int32))] [(.int (1 : Int32))]))
                obtain ⟨fs, hr, hrun, hended, hW, hsame⟩ := X33.leave (v := some (.int (1 : Int32))) (fun h => by rw [Bd.returns] at h; cases h)
                exact ⟨_, _, retN X33 hx (t := .boolean) Bd.returns (by simp) (hb hby at_289) hr, hrun, hended, _, _, rfl, ⟨rfl, N33⟩, ⟨_, rfl⟩, hW, hsame.mono (by decide) (by decide)⟩
              by_cases qF24 : (p0 &&& (3 : Int32)) = kb
              ·
                refine own_st (fun t k => XS.icmpNo X22.here hx rfl (hb hby at_191) rfl (teq qF24).2 k) ?_
                show own_Fin p e below _ (T22.setTop (mkF m 194 #[.val (.int p0), .val (.int p1), .val (.int p2), .val (.long p3), .second, .val (.long p4), .second, .val (.int p5), .val (.int (p0 &&& (3 : Int32))), .val (.int kb), .val (.int fa), .val (.int fb), .val (.int sb), .val (.long tb), .second, .val (.ref b6), .val (.ref b15), .val (.int (0 : Int32)), .val (.ref b15), .unset, .unset, .unset, .unset] []))
                refine own_st (fun t k => XS.iloadN X22.here hx rfl (hb hby at_194) rfl k) ?_
                show own_Fin p e below _ (T22.setTop (mkF m 195 #[.val (.int p0), .val (.int p1), .val (.int p2), .val (.long p3), .second, .val (.long p4), .second, .val (.int p5), .val (.int (p0 &&& (3 : Int32))), .val (.int kb), .val (.int fa), .val (.int fb), .val (.int sb), .val (.long tb), .second, .val (.ref b6), .val (.ref b15), .val (.int (0 : Int32)), .val (.ref b15), .unset, .unset, .unset, .unset] [(.int p1)]))
                refine own_st (fun t k => XS.iload X22.here hx rfl (hb hby at_195) rfl k) ?_
                show own_Fin p e below _ (T22.setTop (mkF m 197 #[.val (.int p0), .val (.int p1), .val (.int p2), .val (.long p3), .second, .val (.long p4), .second, .val (.int p5), .val (.int (p0 &&& (3 : Int32))), .val (.int kb), .val (.int fa), .val (.int fb), .val (.int sb), .val (.long tb), .second, .val (.ref b6), .val (.ref b15), .val (.int (0 : Int32)), .val (.ref b15), .unset, .unset, .unset, .unset] [(.int sb), (.int p1)]))
                by_cases qF44 : p1 = sb
                ·
                  refine own_st (fun t k => XS.icmpNo X22.here hx rfl (hb hby at_197) rfl (teq qF44).2 k) ?_
                  show own_Fin p e below _ (T22.setTop (mkF m 200 #[.val (.int p0), .val (.int p1), .val (.int p2), .val (.long p3), .second, .val (.long p4), .second, .val (.int p5), .val (.int (p0 &&& (3 : Int32))), .val (.int kb), .val (.int fa), .val (.int fb), .val (.int sb), .val (.long tb), .second, .val (.ref b6), .val (.ref b15), .val (.int (0 : Int32)), .val (.ref b15), .unset, .unset, .unset, .unset] []))
                  refine own_st (fun t k => XS.lloadN X22.here hx rfl (hb hby at_200) rfl k) ?_
                  show own_Fin p e below _ (T22.setTop (mkF m 201 #[.val (.int p0), .val (.int p1), .val (.int p2), .val (.long p3), .second, .val (.long p4), .second, .val (.int p5), .val (.int (p0 &&& (3 : Int32))), .val (.int kb), .val (.int fa), .val (.int fb), .val (.int sb), .val (.long tb), .second, .val (.ref b6), .val (.ref b15), .val (.int (0 : Int32)), .val (.ref b15), .unset, .unset, .unset, .unset] [(.long p3)]))
                  refine own_st (fun t k => XS.lload X22.here hx rfl (hb hby at_201) rfl k) ?_
                  show own_Fin p e below _ (T22.setTop (mkF m 203 #[.val (.int p0), .val (.int p1), .val (.int p2), .val (.long p3), .second, .val (.long p4), .second, .val (.int p5), .val (.int (p0 &&& (3 : Int32))), .val (.int kb), .val (.int fa), .val (.int fb), .val (.int sb), .val (.long tb), .second, .val (.ref b6), .val (.ref b15), .val (.int (0 : Int32)), .val (.ref b15), .unset, .unset, .unset, .unset] [(.long tb), (.long p3)]))
                  refine own_st (fun t k => XS.lcmp X22.here hx rfl (hb hby at_203) rfl k) ?_
                  show own_Fin p e below _ (T22.setTop (mkF m 204 #[.val (.int p0), .val (.int p1), .val (.int p2), .val (.long p3), .second, .val (.long p4), .second, .val (.int p5), .val (.int (p0 &&& (3 : Int32))), .val (.int kb), .val (.int fa), .val (.int fb), .val (.int sb), .val (.long tb), .second, .val (.ref b6), .val (.ref b15), .val (.int (0 : Int32)), .val (.ref b15), .unset, .unset, .unset, .unset] [(.int (lcmpW p3 tb))]))
                  by_cases qF45 : p3 = tb
                  ·
                    refine own_st (fun t k => XS.ifNo X22.here hx rfl (hb hby at_204) rfl ((if0 _ _).trans (teq (Iff.mpr (lw_eq _ _) qF45)).2) k) ?_
                    show own_Fin p e below _ (T22.setTop (mkF m 207 #[.val (.int p0), .val (.int p1), .val (.int p2), .val (.long p3), .second, .val (.long p4), .second, .val (.int p5), .val (.int (p0 &&& (3 : Int32))), .val (.int kb), .val (.int fa), .val (.int fb), .val (.int sb), .val (.long tb), .second, .val (.ref b6), .val (.ref b15), .val (.int (0 : Int32)), .val (.ref b15), .unset, .unset, .unset, .unset] []))
                    refine own_st (fun t k => XS.iload X22.here hx rfl (hb hby at_207) rfl k) ?_
                    show own_Fin p e below _ (T22.setTop (mkF m 209 #[.val (.int p0), .val (.int p1), .val (.int p2), .val (.long p3), .second, .val (.long p4), .second, .val (.int p5), .val (.int (p0 &&& (3 : Int32))), .val (.int kb), .val (.int fa), .val (.int fb), .val (.int sb), .val (.long tb), .second, .val (.ref b6), .val (.ref b15), .val (.int (0 : Int32)), .val (.ref b15), .unset, .unset, .unset, .unset] [(.int fa)]))
                    refine own_st (fun t k => XS.iload X22.here hx rfl (hb hby at_209) rfl k) ?_
                    show own_Fin p e below _ (T22.setTop (mkF m 211 #[.val (.int p0), .val (.int p1), .val (.int p2), .val (.long p3), .second, .val (.long p4), .second, .val (.int p5), .val (.int (p0 &&& (3 : Int32))), .val (.int kb), .val (.int fa), .val (.int fb), .val (.int sb), .val (.long tb), .second, .val (.ref b6), .val (.ref b15), .val (.int (0 : Int32)), .val (.ref b15), .unset, .unset, .unset, .unset] [(.int fb), (.int fa)]))
                    by_cases qF46 : fa = fb
                    ·
                      refine own_st (fun t k => XS.icmpNo X22.here hx rfl (hb hby at_211) rfl (teq qF46).2 k) ?_
                      show own_Fin p e below _ (T22.setTop (mkF m 214 #[.val (.int p0), .val (.int p1), .val (.int p2), .val (.long p3), .second, .val (.long p4), .second, .val (.int p5), .val (.int (p0 &&& (3 : Int32))), .val (.int kb), .val (.int fa), .val (.int fb), .val (.int sb), .val (.long tb), .second, .val (.ref b6), .val (.ref b15), .val (.int (0 : Int32)), .val (.ref b15), .unset, .unset, .unset, .unset] []))
                      refine own_st (fun t k => XS.iconst X22.here hx rfl (hb hby at_214) k) ?_
                      show own_Fin p e below _ (T22.setTop (mkF m 215 #[.val (.int p0), .val (.int p1), .val (.int p2), .val (.long p3), .second, .val (.long p4), .second, .val (.int p5), .val (.int (p0 &&& (3 : Int32))), .val (.int kb), .val (.int fa), .val (.int fb), .val (.int sb), .val (.long tb), .second, .val (.ref b6), .val (.ref b15), .val (.int (0 : Int32)), .val (.ref b15), .unset, .unset, .unset, .unset] [(.int (1 : Int32))]))
                      refine own_st (fun t k => XS.goto X22.here hx rfl (pc0 := 215) (pc' := 219) rfl (hb hby at_215) (by decide) (by decide) k) ?_
                      show own_Fin p e below _ (T22.setTop (mkF m 219 #[.val (.int p0), .val (.int p1), .val (.int p2), .val (.long p3), .second, .val (.long p4), .second, .val (.int p5), .val (.int (p0 &&& (3 : Int32))), .val (.int kb), .val (.int fa), .val (.int fb), .val (.int sb), .val (.long tb), .second, .val (.ref b6), .val (.ref b15), .val (.int (0 : Int32)), .val (.ref b15), .unset, .unset, .unset, .unset] [(.int (1 : Int32))]))
                      exact J219 (1 : Int32) (by simp [own_ex, qF24, qF44, qF45, qF46])
                    ·
                      refine own_st (fun t k => XS.icmpYes X22.here hx rfl (pc0 := 211) (pc' := 218) rfl (hb hby at_211) rfl (feq qF46).2 (by decide) (by decide) k) ?_
                      show own_Fin p e below _ (T22.setTop (mkF m 218 #[.val (.int p0), .val (.int p1), .val (.int p2), .val (.long p3), .second, .val (.long p4), .second, .val (.int p5), .val (.int (p0 &&& (3 : Int32))), .val (.int kb), .val (.int fa), .val (.int fb), .val (.int sb), .val (.long tb), .second, .val (.ref b6), .val (.ref b15), .val (.int (0 : Int32)), .val (.ref b15), .unset, .unset, .unset, .unset] []))
                      refine own_st (fun t k => XS.iconst X22.here hx rfl (hb hby at_218) k) ?_
                      show own_Fin p e below _ (T22.setTop (mkF m 219 #[.val (.int p0), .val (.int p1), .val (.int p2), .val (.long p3), .second, .val (.long p4), .second, .val (.int p5), .val (.int (p0 &&& (3 : Int32))), .val (.int kb), .val (.int fa), .val (.int fb), .val (.int sb), .val (.long tb), .second, .val (.ref b6), .val (.ref b15), .val (.int (0 : Int32)), .val (.ref b15), .unset, .unset, .unset, .unset] [(.int (0 : Int32))]))
                      exact J219 (0 : Int32) (by simp [own_ex, qF24, qF44, qF45, qF46])
                  ·
                    refine own_st (fun t k => XS.ifYes X22.here hx rfl (pc0 := 204) (pc' := 218) rfl (hb hby at_204) rfl ((if0 _ _).trans (feq (mt (lw_eq _ _).1 qF45)).2) (by decide) (by decide) k) ?_
                    show own_Fin p e below _ (T22.setTop (mkF m 218 #[.val (.int p0), .val (.int p1), .val (.int p2), .val (.long p3), .second, .val (.long p4), .second, .val (.int p5), .val (.int (p0 &&& (3 : Int32))), .val (.int kb), .val (.int fa), .val (.int fb), .val (.int sb), .val (.long tb), .second, .val (.ref b6), .val (.ref b15), .val (.int (0 : Int32)), .val (.ref b15), .unset, .unset, .unset, .unset] []))
                    refine own_st (fun t k => XS.iconst X22.here hx rfl (hb hby at_218) k) ?_
                    show own_Fin p e below _ (T22.setTop (mkF m 219 #[.val (.int p0), .val (.int p1), .val (.int p2), .val (.long p3), .second, .val (.long p4), .second, .val (.int p5), .val (.int (p0 &&& (3 : Int32))), .val (.int kb), .val (.int fa), .val (.int fb), .val (.int sb), .val (.long tb), .second, .val (.ref b6), .val (.ref b15), .val (.int (0 : Int32)), .val (.ref b15), .unset, .unset, .unset, .unset] [(.int (0 : Int32))]))
                    exact J219 (0 : Int32) (by simp [own_ex, qF24, qF44, qF45])
                ·
                  refine own_st (fun t k => XS.icmpYes X22.here hx rfl (pc0 := 197) (pc' := 218) rfl (hb hby at_197) rfl (feq qF44).2 (by decide) (by decide) k) ?_
                  show own_Fin p e below _ (T22.setTop (mkF m 218 #[.val (.int p0), .val (.int p1), .val (.int p2), .val (.long p3), .second, .val (.long p4), .second, .val (.int p5), .val (.int (p0 &&& (3 : Int32))), .val (.int kb), .val (.int fa), .val (.int fb), .val (.int sb), .val (.long tb), .second, .val (.ref b6), .val (.ref b15), .val (.int (0 : Int32)), .val (.ref b15), .unset, .unset, .unset, .unset] []))
                  refine own_st (fun t k => XS.iconst X22.here hx rfl (hb hby at_218) k) ?_
                  show own_Fin p e below _ (T22.setTop (mkF m 219 #[.val (.int p0), .val (.int p1), .val (.int p2), .val (.long p3), .second, .val (.long p4), .second, .val (.int p5), .val (.int (p0 &&& (3 : Int32))), .val (.int kb), .val (.int fa), .val (.int fb), .val (.int sb), .val (.long tb), .second, .val (.ref b6), .val (.ref b15), .val (.int (0 : Int32)), .val (.ref b15), .unset, .unset, .unset, .unset] [(.int (0 : Int32))]))
                  exact J219 (0 : Int32) (by simp [own_ex, qF24, qF44])
              ·
                refine own_st (fun t k => XS.icmpYes X22.here hx rfl (pc0 := 191) (pc' := 218) rfl (hb hby at_191) rfl (feq qF24).2 (by decide) (by decide) k) ?_
                show own_Fin p e below _ (T22.setTop (mkF m 218 #[.val (.int p0), .val (.int p1), .val (.int p2), .val (.long p3), .second, .val (.long p4), .second, .val (.int p5), .val (.int (p0 &&& (3 : Int32))), .val (.int kb), .val (.int fa), .val (.int fb), .val (.int sb), .val (.long tb), .second, .val (.ref b6), .val (.ref b15), .val (.int (0 : Int32)), .val (.ref b15), .unset, .unset, .unset, .unset] []))
                refine own_st (fun t k => XS.iconst X22.here hx rfl (hb hby at_218) k) ?_
                show own_Fin p e below _ (T22.setTop (mkF m 219 #[.val (.int p0), .val (.int p1), .val (.int p2), .val (.long p3), .second, .val (.long p4), .second, .val (.int p5), .val (.int (p0 &&& (3 : Int32))), .val (.int kb), .val (.int fa), .val (.int fb), .val (.int sb), .val (.long tb), .second, .val (.ref b6), .val (.ref b15), .val (.int (0 : Int32)), .val (.ref b15), .unset, .unset, .unset, .unset] [(.int (0 : Int32))]))
                exact J219 (0 : Int32) (by simp [own_ex, qF24])
            ·
              rw [qL142]
              show own_Fin p e below _ (T22.setTop (mkF m 142 #[.val (.int p0), .val (.int p1), .val (.int p2), .val (.long p3), .second, .val (.long p4), .second, .val (.int p5), .val (.int (p0 &&& (3 : Int32))), .val (.int kb), .val (.int fa), .val (.int fb), .val (.int sb), .val (.long tb), .second, .val (.ref b6), .val (.ref b15), .val (.int (1 : Int32)), .unset, .unset, .unset, .unset, .unset] []))
              refine own_st (fun t k => XS.iload X22.here hx rfl (hb hby at_142) rfl k) ?_
              show own_Fin p e below _ (T22.setTop (mkF m 144 #[.val (.int p0), .val (.int p1), .val (.int p2), .val (.long p3), .second, .val (.long p4), .second, .val (.int p5), .val (.int (p0 &&& (3 : Int32))), .val (.int kb), .val (.int fa), .val (.int fb), .val (.int sb), .val (.long tb), .second, .val (.ref b6), .val (.ref b15), .val (.int (1 : Int32)), .unset, .unset, .unset, .unset, .unset] [(.int (1 : Int32))]))
              refine own_st (fun t k => XS.iconst X22.here hx rfl (hb hby at_144) k) ?_
              show own_Fin p e below _ (T22.setTop (mkF m 145 #[.val (.int p0), .val (.int p1), .val (.int p2), .val (.long p3), .second, .val (.long p4), .second, .val (.int p5), .val (.int (p0 &&& (3 : Int32))), .val (.int kb), .val (.int fa), .val (.int fb), .val (.int sb), .val (.long tb), .second, .val (.ref b6), .val (.ref b15), .val (.int (1 : Int32)), .unset, .unset, .unset, .unset, .unset] [(.int (2 : Int32)), (.int (1 : Int32))]))
              refine own_st (fun t k => XS.icmpYes X22.here hx rfl (pc0 := 145) (pc' := 154) rfl (hb hby at_145) rfl (by decide) (by decide) (by decide) k) ?_
              show own_Fin p e below _ (T22.setTop (mkF m 154 #[.val (.int p0), .val (.int p1), .val (.int p2), .val (.long p3), .second, .val (.long p4), .second, .val (.int p5), .val (.int (p0 &&& (3 : Int32))), .val (.int kb), .val (.int fa), .val (.int fb), .val (.int sb), .val (.long tb), .second, .val (.ref b6), .val (.ref b15), .val (.int (1 : Int32)), .unset, .unset, .unset, .unset, .unset] []))
              refine own_st (fun t k => XS.iload X22.here hx rfl (hb hby at_154) rfl k) ?_
              show own_Fin p e below _ (T22.setTop (mkF m 156 #[.val (.int p0), .val (.int p1), .val (.int p2), .val (.long p3), .second, .val (.long p4), .second, .val (.int p5), .val (.int (p0 &&& (3 : Int32))), .val (.int kb), .val (.int fa), .val (.int fb), .val (.int sb), .val (.long tb), .second, .val (.ref b6), .val (.ref b15), .val (.int (1 : Int32)), .unset, .unset, .unset, .unset, .unset] [(.int (1 : Int32))]))
              refine own_st (fun t k => XS.iconst X22.here hx rfl (hb hby at_156) k) ?_
              show own_Fin p e below _ (T22.setTop (mkF m 157 #[.val (.int p0), .val (.int p1), .val (.int p2), .val (.long p3), .second, .val (.long p4), .second, .val (.int p5), .val (.int (p0 &&& (3 : Int32))), .val (.int kb), .val (.int fa), .val (.int fb), .val (.int sb), .val (.long tb), .second, .val (.ref b6), .val (.ref b15), .val (.int (1 : Int32)), .unset, .unset, .unset, .unset, .unset] [(.int (3 : Int32)), (.int (1 : Int32))]))
              refine own_st (fun t k => XS.icmpYes X22.here hx rfl (pc0 := 157) (pc' := 177) rfl (hb hby at_157) rfl (by decide) (by decide) (by decide) k) ?_
              show own_Fin p e below _ (T22.setTop (mkF m 177 #[.val (.int p0), .val (.int p1), .val (.int p2), .val (.long p3), .second, .val (.long p4), .second, .val (.int p5), .val (.int (p0 &&& (3 : Int32))), .val (.int kb), .val (.int fa), .val (.int fb), .val (.int sb), .val (.long tb), .second, .val (.ref b6), .val (.ref b15), .val (.int (1 : Int32)), .unset, .unset, .unset, .unset, .unset] []))
              refine own_st (fun t k => XS.aload X22.here hx rfl (hb hby at_177) rfl rfl k) ?_
              show own_Fin p e below _ (T22.setTop (mkF m 179 #[.val (.int p0), .val (.int p1), .val (.int p2), .val (.long p3), .second, .val (.long p4), .second, .val (.int p5), .val (.int (p0 &&& (3 : Int32))), .val (.int kb), .val (.int fa), .val (.int fb), .val (.int sb), .val (.long tb), .second, .val (.ref b6), .val (.ref b15), .val (.int (1 : Int32)), .unset, .unset, .unset, .unset, .unset] [(.ref b15)]))
              refine own_st (fun t k => XS.astore X22.here hx rfl (hb hby at_179) rfl rfl (l' := #[.val (.int p0), .val (.int p1), .val (.int p2), .val (.long p3), .second, .val (.long p4), .second, .val (.int p5), .val (.int (p0 &&& (3 : Int32))), .val (.int kb), .val (.int fa), .val (.int fb), .val (.int sb), .val (.long tb), .second, .val (.ref b6), .val (.ref b15), .val (.int (1 : Int32)), .val (.ref b15), .unset, .unset, .unset, .unset]) rfl k) ?_
              show own_Fin p e below _ (T22.setTop (mkF m 181 #[.val (.int p0), .val (.int p1), .val (.int p2), .val (.long p3), .second, .val (.long p4), .second, .val (.int p5), .val (.int (p0 &&& (3 : Int32))), .val (.int kb), .val (.int fa), .val (.int fb), .val (.int sb), .val (.long tb), .second, .val (.ref b6), .val (.ref b15), .val (.int (1 : Int32)), .val (.ref b15), .unset, .unset, .unset, .unset] []))
              refine own_st (fun t k => XS.iload X22.here hx rfl (hb hby at_181) rfl k) ?_
              show own_Fin p e below _ (T22.setTop (mkF m 183 #[.val (.int p0), .val (.int p1), .val (.int p2), .val (.long p3), .second, .val (.long p4), .second, .val (.int p5), .val (.int (p0 &&& (3 : Int32))), .val (.int kb), .val (.int fa), .val (.int fb), .val (.int sb), .val (.long tb), .second, .val (.ref b6), .val (.ref b15), .val (.int (1 : Int32)), .val (.ref b15), .unset, .unset, .unset, .unset] [(.int (1 : Int32))]))
              refine own_st (fun t k => XS.iconst X22.here hx rfl (hb hby at_183) k) ?_
              show own_Fin p e below _ (T22.setTop (mkF m 184 #[.val (.int p0), .val (.int p1), .val (.int p2), .val (.long p3), .second, .val (.long p4), .second, .val (.int p5), .val (.int (p0 &&& (3 : Int32))), .val (.int kb), .val (.int fa), .val (.int fb), .val (.int sb), .val (.long tb), .second, .val (.ref b6), .val (.ref b15), .val (.int (1 : Int32)), .val (.ref b15), .unset, .unset, .unset, .unset] [(.int (2 : Int32)), (.int (1 : Int32))]))
              refine own_st (fun t k => XS.icmpNo X22.here hx rfl (hb hby at_184) rfl (by decide) k) ?_
              show own_Fin p e below _ (T22.setTop (mkF m 187 #[.val (.int p0), .val (.int p1), .val (.int p2), .val (.long p3), .second, .val (.long p4), .second, .val (.int p5), .val (.int (p0 &&& (3 : Int32))), .val (.int kb), .val (.int fa), .val (.int fb), .val (.int sb), .val (.long tb), .second, .val (.ref b6), .val (.ref b15), .val (.int (1 : Int32)), .val (.ref b15), .unset, .unset, .unset, .unset] []))
              refine own_st (fun t k => XS.iload X22.here hx rfl (hb hby at_187) rfl k) ?_
              show own_Fin p e below _ (T22.setTop (mkF m 189 #[.val (.int p0), .val (.int p1), .val (.int p2), .val (.long p3), .second, .val (.long p4), .second, .val (.int p5), .val (.int (p0 &&& (3 : Int32))), .val (.int kb), .val (.int fa), .val (.int fb), .val (.int sb), .val (.long tb), .second, .val (.ref b6), .val (.ref b15), .val (.int (1 : Int32)), .val (.ref b15), .unset, .unset, .unset, .unset] [(.int (p0 &&& (3 : Int32)))]))
              refine own_st (fun t k => XS.iload X22.here hx rfl (hb hby at_189) rfl k) ?_
              show own_Fin p e below _ (T22.setTop (mkF m 191 #[.val (.int p0), .val (.int p1), .val (.int p2), .val (.long p3), .second, .val (.long p4), .second, .val (.int p5), .val (.int (p0 &&& (3 : Int32))), .val (.int kb), .val (.int fa), .val (.int fb), .val (.int sb), .val (.long tb), .second, .val (.ref b6), .val (.ref b15), .val (.int (1 : Int32)), .val (.ref b15), .unset, .unset, .unset, .unset] [(.int kb), (.int (p0 &&& (3 : Int32)))]))
              have J219 : ∀ (ex : Int32) (hex : ex = own_ex (p0 &&& (3 : Int32)) kb p1 sb p3 tb fa fb), own_Fin p e below (own_K0 s n0) (T22.setTop (mkF m 219 #[.val (.int p0), .val (.int p1), .val (.int p2), .val (.long p3), .second, .val (.long p4), .second, .val (.int p5), .val (.int (p0 &&& (3 : Int32))), .val (.int kb), .val (.int fa), .val (.int fb), .val (.int sb), .val (.long tb), .second, .val (.ref b6), .val (.ref b15), .val (.int (1 : Int32)), .val (.ref b15), .unset, .unset, .unset, .unset] [(.int ex)])) := by
                intro ex hex
                refine own_st (fun t k => XS.istore X22.here hx rfl (hb hby at_219) rfl (l' := #[.val (.int p0), .val (.int p1), .val (.int p2), .val (.long p3), .second, .val (.long p4), .second, .val (.int p5), .val (.int (p0 &&& (3 : Int32))), .val (.int kb), .val (.int fa), .val (.int fb), .val (.int sb), .val (.long tb), .second, .val (.ref b6), .val (.ref b15), .val (.int (1 : Int32)), .val (.ref b15), .val (.int ex), .unset, .unset, .unset]) rfl k) ?_
                show own_Fin p e below _ (T22.setTop (mkF m 221 #[.val (.int p0), .val (.int p1), .val (.int p2), .val (.long p3), .second, .val (.long p4), .second, .val (.int p5), .val (.int (p0 &&& (3 : Int32))), .val (.int kb), .val (.int fa), .val (.int fb), .val (.int sb), .val (.long tb), .second, .val (.ref b6), .val (.ref b15), .val (.int (1 : Int32)), .val (.ref b15), .val (.int ex), .unset, .unset, .unset] []))
                refine own_st (fun t k => XS.aload X22.here hx rfl (hb hby at_221) rfl rfl k) ?_
                show own_Fin p e below _ (T22.setTop (mkF m 223 #[.val (.int p0), .val (.int p1), .val (.int p2), .val (.long p3), .second, .val (.long p4), .second, .val (.int p5), .val (.int (p0 &&& (3 : Int32))), .val (.int kb), .val (.int fa), .val (.int fb), .val (.int sb), .val (.long tb), .second, .val (.ref b6), .val (.ref b15), .val (.int (1 : Int32)), .val (.ref b15), .val (.int ex), .unset, .unset, .unset] [(.ref b6)]))
                refine own_st (fun t k => XS.aload X22.here hx rfl (hb hby at_223) rfl rfl k) ?_
                show own_Fin p e below _ (T22.setTop (mkF m 225 #[.val (.int p0), .val (.int p1), .val (.int p2), .val (.long p3), .second, .val (.long p4), .second, .val (.int p5), .val (.int (p0 &&& (3 : Int32))), .val (.int kb), .val (.int fa), .val (.int fb), .val (.int sb), .val (.long tb), .second, .val (.ref b6), .val (.ref b15), .val (.int (1 : Int32)), .val (.ref b15), .val (.int ex), .unset, .unset, .unset] [(.ref b15), (.ref b6)]))
                have F49 : Exa Z T22.heap b6 "com/example/deioces/deioces/Message" := (((A6.keep K13q).ext E15).keep K22q)
                have F50 : Exa Z T22.heap b15 "com/example/deioces/deioces/Message" := (A15.keep K22q)
                have F51 : Fld Z T22.heap b6 "com/example/deioces/deioces/Message" "kind" "Lcom/example/deioces/deioces/Message$Kind;" (.ref (own_kd (p0 &&& (3 : Int32)) w_ELECTION w_REPLY w_RELEASE w_HEARTBEAT)) := ((G13_0.ext E15).keep K22q (ninS (Nat.ne_of_lt (Nat.lt_of_lt_of_le (A6.keep K13q).lt le_b15)) nin0))
                have F52 : Fld Z T22.heap b6 "com/example/deioces/deioces/Message" "sender" "I" (.int p1) := ((G13_1.ext E15).keep K22q (ninS (Nat.ne_of_lt (Nat.lt_of_lt_of_le (A6.keep K13q).lt le_b15)) nin0))
                have F53 : Fld Z T22.heap b6 "com/example/deioces/deioces/Message" "stamp" "J" (.long p3) := ((G13_2.ext E15).keep K22q (ninS (Nat.ne_of_lt (Nat.lt_of_lt_of_le (A6.keep K13q).lt le_b15)) nin0))
                have F54 : Fld Z T22.heap b6 "com/example/deioces/deioces/Message" "supportive" "Z" (.int fa) := ((G13_3.ext E15).keep K22q (ninS (Nat.ne_of_lt (Nat.lt_of_lt_of_le (A6.keep K13q).lt le_b15)) nin0))
                obtain ⟨cq48, kq48, q48a, q48b, q48c⟩ := isOf hZ rfl F49
                obtain ⟨_, _, ⟨T48, L48, k48, n48⟩, -, X48, ⟨Lc48, hQ48, l48, y48, z48⟩, st48⟩ := X22.virtualBack hx (y := (⟨"com/example/deioces/deioces/Message", "equals", "(Ljava/lang/Object;)Z"⟩ : MethodName)) (z := (⟨"com/example/deioces/deioces/Message", "equals", "(Ljava/lang/Object;)Z"⟩ : MethodName)) hown (mvT hZ (hw _ (List.mem_of_getElem? (i := 24) rfl))) (mvT hZ (hw _ (List.mem_of_getElem? (i := 25) rfl))) (notFace_of_selects (args := #[]) (mvT hZ (hw _ (List.mem_of_getElem? (i := 27) rfl)))) (mvT hZ (hw _ (List.mem_of_getElem? (i := 27) rfl))) (mvT hZ (hw _ (List.mem_of_getElem? (i := 26) rfl))) (by decide) (backOf (W := 0) (rm4_6 l Z a0 hw [] b6 b15 (own_kd (p0 &&& (3 : Int32)) w_ELECTION w_REPLY w_RELEASE w_HEARTBEAT) (own_kd kb w_ELECTION w_REPLY w_RELEASE w_HEARTBEAT) p1 sb p3 tb fa fb T22.heap n0 Z23 F50 F51 G22_0 F52 G22_1 F53 G22_2 hfa F54 hfb G22_3) hZ (hw _ (List.mem_of_getElem? (i := 28) rfl)) (hw _ (List.mem_of_getElem? (i := 2) rfl)) (by decide) (by decide)) q48a q48c (g := (mkF m 225 #[.val (.int p0), .val (.int p1), .val (.int p2), .val (.long p3), .second, .val (.long p4), .second, .val (.int p5), .val (.int (p0 &&& (3 : Int32))), .val (.int kb), .val (.int fa), .val (.int fb), .val (.int sb), .val (.long tb), .second, .val (.ref b6), .val (.ref b15), .val (.int (1 : Int32)), .val (.ref b15), .val (.int ex), .unset, .unset, .unset] [(.ref b15), (.ref b6)])) rfl (by rw [hml]; rfl) (Steps.refl _) (argsL := [(.ref b15)]) (rest := []) (lenOf pd__Ljava_lang_Object__Z rfl) rfl (by show 2 * 0 + _ ≤ _; exact Nat.le_of_eq rfl) (hb hby at_225) (fun _ _ => ⟨rfl, rfl, (by decide : 2 + 0 ≤ _), (by decide : 8 + 0 ≤ _)⟩)
                dsimp only [Pt.U, Pt.locs, Pt.cells, Pt.slots] at X48 l48 y48 z48 st48 hQ48
                subst l48 y48 z48
                obtain ⟨rfl, N48q, e48⟩ := hQ48
                have N48 := Fr.app N22 N48q
                refine own_tr st48 ?_
                show own_Fin p e below _ (T48.setTop (mkF m 228 #[.val (.int p0), .val (.int p1), .val (.int p2), .val (.long p3), .second, .val (.long p4), .second, .val (.int p5), .val (.int (p0 &&& (3 : Int32))), .val (.int kb), .val (.int fa), .val (.int fb), .val (.int sb), .val (.long tb), .second, .val (.ref b6), .val (.ref b15), .val (.int (1 : Int32)), .val (.ref b15), .val (.int ex), .unset, .unset, .unset] [(.int (own_eq (own_kd (p0 &&& (3 : Int32)) w_ELECTION w_REPLY w_RELEASE w_HEARTBEAT) (own_kd kb w_ELECTION w_REPLY w_RELEASE w_HEARTBEAT) p1 sb p3 tb fa fb))]))
                refine own_st (fun t k => XS.istore X48.here hx rfl (hb hby at_228) rfl (l' := #[.val (.int p0), .val (.int p1), .val (.int p2), .val (.long p3), .second, .val (.long p4), .second, .val (.int p5), .val (.int (p0 &&& (3 : Int32))), .val (.int kb), .val (.int fa), .val (.int fb), .val (.int sb), .val (.long tb), .second, .val (.ref b6), .val (.ref b15), .val (.int (1 : Int32)), .val (.ref b15), .val (.int ex), .val (.int (own_eq (own_kd (p0 &&& (3 : Int32)) w_ELECTION w_REPLY w_RELEASE w_HEARTBEAT) (own_kd kb w_ELECTION w_REPLY w_RELEASE w_HEARTBEAT) p1 sb p3 tb fa fb)), .unset, .unset]) rfl k) ?_
                show own_Fin p e below _ (T48.setTop (mkF m 230 #[.val (.int p0), .val (.int p1), .val (.int p2), .val (.long p3), .second, .val (.long p4), .second, .val (.int p5), .val (.int (p0 &&& (3 : Int32))), .val (.int kb), .val (.int fa), .val (.int fb), .val (.int sb), .val (.long tb), .second, .val (.ref b6), .val (.ref b15), .val (.int (1 : Int32)), .val (.ref b15), .val (.int ex), .val (.int (own_eq (own_kd (p0 &&& (3 : Int32)) w_ELECTION w_REPLY w_RELEASE w_HEARTBEAT) (own_kd kb w_ELECTION w_REPLY w_RELEASE w_HEARTBEAT) p1 sb p3 tb fa fb)), .unset, .unset] []))
                refine own_st (fun t k => XS.aload X48.here hx rfl (hb hby at_230) rfl rfl k) ?_
                show own_Fin p e below _ (T48.setTop (mkF m 232 #[.val (.int p0), .val (.int p1), .val (.int p2), .val (.long p3), .second, .val (.long p4), .second, .val (.int p5), .val (.int (p0 &&& (3 : Int32))), .val (.int kb), .val (.int fa), .val (.int fb), .val (.int sb), .val (.long tb), .second, .val (.ref b6), .val (.ref b15), .val (.int (1 : Int32)), .val (.ref b15), .val (.int ex), .val (.int (own_eq (own_kd (p0 &&& (3 : Int32)) w_ELECTION w_REPLY w_RELEASE w_HEARTBEAT) (own_kd kb w_ELECTION w_REPLY w_RELEASE w_HEARTBEAT) p1 sb p3 tb fa fb)), .unset, .unset] [(.ref b6)]))
                refine own_st (fun t k => XS.aload X48.here hx rfl (hb hby at_232) rfl rfl k) ?_
                show own_Fin p e below _ (T48.setTop (mkF m 234 #[.val (.int p0), .val (.int p1), .val (.int p2), .val (.long p3), .second, .val (.long p4), .second, .val (.int p5), .val (.int (p0 &&& (3 : Int32))), .val (.int kb), .val (.int fa), .val (.int fb), .val (.int sb), .val (.long tb), .second, .val (.ref b6), .val (.ref b15), .val (.int (1 : Int32)), .val (.ref b15), .val (.int ex), .val (.int (own_eq (own_kd (p0 &&& (3 : Int32)) w_ELECTION w_REPLY w_RELEASE w_HEARTBEAT) (own_kd kb w_ELECTION w_REPLY w_RELEASE w_HEARTBEAT) p1 sb p3 tb fa fb)), .unset, .unset] [(.ref b6), (.ref b6)]))
                obtain ⟨cq55, kq55, q55a, q55b, q55c⟩ := isOf hZ e48 F49
                obtain ⟨_, _, ⟨T55, L55, k55, n55⟩, -, X55, ⟨Lc55, hQ55, l55, y55, z55⟩, st55⟩ := X48.virtualBack hx (y := (⟨"com/example/deioces/deioces/Message", "equals", "(Ljava/lang/Object;)Z"⟩ : MethodName)) (z := (⟨"com/example/deioces/deioces/Message", "equals", "(Ljava/lang/Object;)Z"⟩ : MethodName)) hown (mvT hZ (hw _ (List.mem_of_getElem? (i := 24) rfl))) (mvT hZ (hw _ (List.mem_of_getElem? (i := 25) rfl))) (notFace_of_selects (args := #[]) (mvT hZ (hw _ (List.mem_of_getElem? (i := 27) rfl)))) (mvT hZ (hw _ (List.mem_of_getElem? (i := 27) rfl))) (mvT hZ (hw _ (List.mem_of_getElem? (i := 26) rfl))) (by decide) (backOf (W := 0) (rm4_7 l Z a0 hw [] b6 (own_kd (p0 &&& (3 : Int32)) w_ELECTION w_REPLY w_RELEASE w_HEARTBEAT) p1 p3 fa T22.heap n0 Z23 F49 F51 F52 F53 hfa F54) hZ (hw _ (List.mem_of_getElem? (i := 28) rfl)) (hw _ (List.mem_of_getElem? (i := 2) rfl)) (by decide) (by decide)) q55a q55c (g := (mkF m 234 #[.val (.int p0), .val (.int p1), .val (.int p2), .val (.long p3), .second, .val (.long p4), .second, .val (.int p5), .val (.int (p0 &&& (3 : Int32))), .val (.int kb), .val (.int fa), .val (.int fb), .val (.int sb), .val (.long tb), .second, .val (.ref b6), .val (.ref b15), .val (.int (1 : Int32)), .val (.ref b15), .val (.int ex), .val (.int (own_eq (own_kd (p0 &&& (3 : Int32)) w_ELECTION w_REPLY w_RELEASE w_HEARTBEAT) (own_kd kb w_ELECTION w_REPLY w_RELEASE w_HEARTBEAT) p1 sb p3 tb fa fb)), .unset, .unset] [(.ref b6), (.ref b6)])) rfl (by rw [hml]; rfl) (Steps.refl _) (argsL := [(.ref b6)]) (rest := []) (lenOf pd__Ljava_lang_Object__Z rfl) rfl (by show 2 * 0 + _ ≤ _; exact Nat.le_of_eq rfl) (hb hby at_234) (fun _ _ => ⟨rfl, e48, (by decide : 2 + 0 ≤ _), (by decide : 8 + 0 ≤ _)⟩)
                dsimp only [Pt.U, Pt.locs, Pt.cells, Pt.slots] at X55 l55 y55 z55 st55 hQ55
                subst l55 y55 z55
                obtain ⟨rfl, N55q, e55⟩ := hQ55
                have N55 := Fr.app N48 N55q
                refine own_tr st55 ?_
                show own_Fin p e below _ (T55.setTop (mkF m 237 #[.val (.int p0), .val (.int p1), .val (.int p2), .val (.long p3), .second, .val (.long p4), .second, .val (.int p5), .val (.int (p0 &&& (3 : Int32))), .val (.int kb), .val (.int fa), .val (.int fb), .val (.int sb), .val (.long tb), .second, .val (.ref b6), .val (.ref b15), .val (.int (1 : Int32)), .val (.ref b15), .val (.int ex), .val (.int (own_eq (own_kd (p0 &&& (3 : Int32)) w_ELECTION w_REPLY w_RELEASE w_HEARTBEAT) (own_kd kb w_ELECTION w_REPLY w_RELEASE w_HEARTBEAT) p1 sb p3 tb fa fb)), .unset, .unset] [(.int (1 : Int32))]))
                refine own_st (fun t k => XS.istore X55.here hx rfl (hb hby at_237) rfl (l' := #[.val (.int p0), .val (.int p1), .val (.int p2), .val (.long p3), .second, .val (.long p4), .second, .val (.int p5), .val (.int (p0 &&& (3 : Int32))), .val (.int kb), .val (.int fa), .val (.int fb), .val (.int sb), .val (.long tb), .second, .val (.ref b6), .val (.ref b15), .val (.int (1 : Int32)), .val (.ref b15), .val (.int ex), .val (.int (own_eq (own_kd (p0 &&& (3 : Int32)) w_ELECTION w_REPLY w_RELEASE w_HEARTBEAT) (own_kd kb w_ELECTION w_REPLY w_RELEASE w_HEARTBEAT) p1 sb p3 tb fa fb)), .val (.int (1 : Int32)), .unset]) rfl k) ?_
                show own_Fin p e below _ (T55.setTop (mkF m 239 #[.val (.int p0), .val (.int p1), .val (.int p2), .val (.long p3), .second, .val (.long p4), .second, .val (.int p5), .val (.int (p0 &&& (3 : Int32))), .val (.int kb), .val (.int fa), .val (.int fb), .val (.int sb), .val (.long tb), .second, .val (.ref b6), .val (.ref b15), .val (.int (1 : Int32)), .val (.ref b15), .val (.int ex), .val (.int (own_eq (own_kd (p0 &&& (3 : Int32)) w_ELECTION w_REPLY w_RELEASE w_HEARTBEAT) (own_kd kb w_ELECTION w_REPLY w_RELEASE w_HEARTBEAT) p1 sb p3 tb fa fb)), .val (.int (1 : Int32)), .unset] []))
                refine own_st (fun t k => XS.iconst X55.here hx rfl (hb hby at_239) k) ?_
                show own_Fin p e below _ (T55.setTop (mkF m 240 #[.val (.int p0), .val (.int p1), .val (.int p2), .val (.long p3), .second, .val (.long p4), .second, .val (.int p5), .val (.int (p0 &&& (3 : Int32))), .val (.int kb), .val (.int fa), .val (.int fb), .val (.int sb), .val (.long tb), .second, .val (.ref b6), .val (.ref b15), .val (.int (1 : Int32)), .val (.ref b15), .val (.int ex), .val (.int (own_eq (own_kd (p0 &&& (3 : Int32)) w_ELECTION w_REPLY w_RELEASE w_HEARTBEAT) (own_kd kb w_ELECTION w_REPLY w_RELEASE w_HEARTBEAT) p1 sb p3 tb fa fb)), .val (.int (1 : Int32)), .unset] [(.int (1 : Int32))]))
                refine own_st (fun t k => XS.istore X55.here hx rfl (hb hby at_240) rfl (l' := #[.val (.int p0), .val (.int p1), .val (.int p2), .val (.long p3), .second, .val (.long p4), .second, .val (.int p5), .val (.int (p0 &&& (3 : Int32))), .val (.int kb), .val (.int fa), .val (.int fb), .val (.int sb), .val (.long tb), .second, .val (.ref b6), .val (.ref b15), .val (.int (1 : Int32)), .val (.ref b15), .val (.int ex), .val (.int (own_eq (own_kd (p0 &&& (3 : Int32)) w_ELECTION w_REPLY w_RELEASE w_HEARTBEAT) (own_kd kb w_ELECTION w_REPLY w_RELEASE w_HEARTBEAT) p1 sb p3 tb fa fb)), .val (.int (1 : Int32)), .val (.int (1 : Int32))]) rfl k) ?_
                show own_Fin p e below _ (T55.setTop (mkF m 242 #[.val (.int p0), .val (.int p1), .val (.int p2), .val (.long p3), .second, .val (.long p4), .second, .val (.int p5), .val (.int (p0 &&& (3 : Int32))), .val (.int kb), .val (.int fa), .val (.int fb), .val (.int sb), .val (.long tb), .second, .val (.ref b6), .val (.ref b15), .val (.int (1 : Int32)), .val (.ref b15), .val (.int ex), .val (.int (own_eq (own_kd (p0 &&& (3 : Int32)) w_ELECTION w_REPLY w_RELEASE w_HEARTBEAT) (own_kd kb w_ELECTION w_REPLY w_RELEASE w_HEARTBEAT) p1 sb p3 tb fa fb)), .val (.int (1 : Int32)), .val (.int (1 : Int32))] []))
                refine own_st (fun t k => XS.iload X55.here hx rfl (hb hby at_242) rfl k) ?_
                show own_Fin p e below _ (T55.setTop (mkF m 244 #[.val (.int p0), .val (.int p1), .val (.int p2), .val (.long p3), .second, .val (.long p4), .second, .val (.int p5), .val (.int (p0 &&& (3 : Int32))), .val (.int kb), .val (.int fa), .val (.int fb), .val (.int sb), .val (.long tb), .second, .val (.ref b6), .val (.ref b15), .val (.int (1 : Int32)), .val (.ref b15), .val (.int ex), .val (.int (own_eq (own_kd (p0 &&& (3 : Int32)) w_ELECTION w_REPLY w_RELEASE w_HEARTBEAT) (own_kd kb w_ELECTION w_REPLY w_RELEASE w_HEARTBEAT) p1 sb p3 tb fa fb)), .val (.int (1 : Int32)), .val (.int (1 : Int32))] [(.int (1 : Int32))]))
                refine own_st (fun t k => XS.iconst X55.here hx rfl (hb hby at_244) k) ?_
                show own_Fin p e below _ (T55.setTop (mkF m 245 #[.val (.int p0), .val (.int p1), .val (.int p2), .val (.long p3), .second, .val (.long p4), .second, .val (.int p5), .val (.int (p0 &&& (3 : Int32))), .val (.int kb), .val (.int fa), .val (.int fb), .val (.int sb), .val (.long tb), .second, .val (.ref b6), .val (.ref b15), .val (.int (1 : Int32)), .val (.ref b15), .val (.int ex), .val (.int (own_eq (own_kd (p0 &&& (3 : Int32)) w_ELECTION w_REPLY w_RELEASE w_HEARTBEAT) (own_kd kb w_ELECTION w_REPLY w_RELEASE w_HEARTBEAT) p1 sb p3 tb fa fb)), .val (.int (1 : Int32)), .val (.int (1 : Int32))] [(.int (2 : Int32)), (.int (1 : Int32))]))
                refine own_st (fun t k => XS.icmpNo X55.here hx rfl (hb hby at_245) rfl (by decide) k) ?_
                show own_Fin p e below _ (T55.setTop (mkF m 248 #[.val (.int p0), .val (.int p1), .val (.int p2), .val (.long p3), .second, .val (.long p4), .second, .val (.int p5), .val (.int (p0 &&& (3 : Int32))), .val (.int kb), .val (.int fa), .val (.int fb), .val (.int sb), .val (.long tb), .second, .val (.ref b6), .val (.ref b15), .val (.int (1 : Int32)), .val (.ref b15), .val (.int ex), .val (.int (own_eq (own_kd (p0 &&& (3 : Int32)) w_ELECTION w_REPLY w_RELEASE w_HEARTBEAT) (own_kd kb w_ELECTION w_REPLY w_RELEASE w_HEARTBEAT) p1 sb p3 tb fa fb)), .val (.int (1 : Int32)), .val (.int (1 : Int32))] []))
                refine own_st (fun t k => XS.aload X55.here hx rfl (hb hby at_248) rfl rfl k) ?_
                show own_Fin p e below _ (T55.setTop (mkF m 250 #[.val (.int p0), .val (.int p1), .val (.int p2), .val (.long p3), .second, .val (.long p4), .second, .val (.int p5), .val (.int (p0 &&& (3 : Int32))), .val (.int kb), .val (.int fa), .val (.int fb), .val (.int sb), .val (.long tb), .second, .val (.ref b6), .val (.ref b15), .val (.int (1 : Int32)), .val (.ref b15), .val (.int ex), .val (.int (own_eq (own_kd (p0 &&& (3 : Int32)) w_ELECTION w_REPLY w_RELEASE w_HEARTBEAT) (own_kd kb w_ELECTION w_REPLY w_RELEASE w_HEARTBEAT) p1 sb p3 tb fa fb)), .val (.int (1 : Int32)), .val (.int (1 : Int32))] [(.ref b15)]))
                refine own_st (fun t k => XS.aload X55.here hx rfl (hb hby at_250) rfl rfl k) ?_
                show own_Fin p e below _ (T55.setTop (mkF m 252 #[.val (.int p0), .val (.int p1), .val (.int p2), .val (.long p3), .second, .val (.long p4), .second, .val (.int p5), .val (.int (p0 &&& (3 : Int32))), .val (.int kb), .val (.int fa), .val (.int fb), .val (.int sb), .val (.long tb), .second, .val (.ref b6), .val (.ref b15), .val (.int (1 : Int32)), .val (.ref b15), .val (.int ex), .val (.int (own_eq (own_kd (p0 &&& (3 : Int32)) w_ELECTION w_REPLY w_RELEASE w_HEARTBEAT) (own_kd kb w_ELECTION w_REPLY w_RELEASE w_HEARTBEAT) p1 sb p3 tb fa fb)), .val (.int (1 : Int32)), .val (.int (1 : Int32))] [(.ref b6), (.ref b15)]))
                obtain ⟨cq56, kq56, q56a, q56b, q56c⟩ := isOf hZ e55 F50
                obtain ⟨_, _, ⟨T56, L56, k56, n56⟩, -, X56, ⟨Lc56, hQ56, l56, y56, z56⟩, st56⟩ := X55.virtualBack hx (y := (⟨"com/example/deioces/deioces/Message", "equals", "(Ljava/lang/Object;)Z"⟩ : MethodName)) (z := (⟨"com/example/deioces/deioces/Message", "equals", "(Ljava/lang/Object;)Z"⟩ : MethodName)) hown (mvT hZ (hw _ (List.mem_of_getElem? (i := 24) rfl))) (mvT hZ (hw _ (List.mem_of_getElem? (i := 25) rfl))) (notFace_of_selects (args := #[]) (mvT hZ (hw _ (List.mem_of_getElem? (i := 27) rfl)))) (mvT hZ (hw _ (List.mem_of_getElem? (i := 27) rfl))) (mvT hZ (hw _ (List.mem_of_getElem? (i := 26) rfl))) (by decide) (backOf (W := 0) (rm4_8 l Z a0 hw [] b15 b6 (own_kd kb w_ELECTION w_REPLY w_RELEASE w_HEARTBEAT) (own_kd (p0 &&& (3 : Int32)) w_ELECTION w_REPLY w_RELEASE w_HEARTBEAT) sb p1 tb p3 fb fa T22.heap n0 Z23 F49 G22_0 F51 G22_1 F52 G22_2 F53 hfb G22_3 hfa F54) hZ (hw _ (List.mem_of_getElem? (i := 28) rfl)) (hw _ (List.mem_of_getElem? (i := 2) rfl)) (by decide) (by decide)) q56a q56c (g := (mkF m 252 #[.val (.int p0), .val (.int p1), .val (.int p2), .val (.long p3), .second, .val (.long p4), .second, .val (.int p5), .val (.int (p0 &&& (3 : Int32))), .val (.int kb), .val (.int fa), .val (.int fb), .val (.int sb), .val (.long tb), .second, .val (.ref b6), .val (.ref b15), .val (.int (1 : Int32)), .val (.ref b15), .val (.int ex), .val (.int (own_eq (own_kd (p0 &&& (3 : Int32)) w_ELECTION w_REPLY w_RELEASE w_HEARTBEAT) (own_kd kb w_ELECTION w_REPLY w_RELEASE w_HEARTBEAT) p1 sb p3 tb fa fb)), .val (.int (1 : Int32)), .val (.int (1 : Int32))] [(.ref b6), (.ref b15)])) rfl (by rw [hml]; rfl) (Steps.refl _) (argsL := [(.ref b6)]) (rest := []) (lenOf pd__Ljava_lang_Object__Z rfl) rfl (by show 2 * 0 + _ ≤ _; exact Nat.le_of_eq rfl) (hb hby at_252) (fun _ _ => ⟨rfl, e55, (by decide : 2 + 0 ≤ _), (by decide : 8 + 0 ≤ _)⟩)
                dsimp only [Pt.U, Pt.locs, Pt.cells, Pt.slots] at X56 l56 y56 z56 st56 hQ56
                subst l56 y56 z56
                obtain ⟨rfl, N56q, e56⟩ := hQ56
                have N56 := Fr.app N55 N56q
                refine own_tr st56 ?_
                show own_Fin p e below _ (T56.setTop (mkF m 255 #[.val (.int p0), .val (.int p1), .val (.int p2), .val (.long p3), .second, .val (.long p4), .second, .val (.int p5), .val (.int (p0 &&& (3 : Int32))), .val (.int kb), .val (.int fa), .val (.int fb), .val (.int sb), .val (.long tb), .second, .val (.ref b6), .val (.ref b15), .val (.int (1 : Int32)), .val (.ref b15), .val (.int ex), .val (.int (own_eq (own_kd (p0 &&& (3 : Int32)) w_ELECTION w_REPLY w_RELEASE w_HEARTBEAT) (own_kd kb w_ELECTION w_REPLY w_RELEASE w_HEARTBEAT) p1 sb p3 tb fa fb)), .val (.int (1 : Int32)), .val (.int (1 : Int32))] [(.int (own_eq (own_kd kb w_ELECTION w_REPLY w_RELEASE w_HEARTBEAT) (own_kd (p0 &&& (3 : Int32)) w_ELECTION w_REPLY w_RELEASE w_HEARTBEAT) sb p1 tb p3 fb fa))]))
                refine own_st (fun t k => XS.iload X56.here hx rfl (hb hby at_255) rfl k) ?_
                show own_Fin p e below _ (T56.setTop (mkF m 257 #[.val (.int p0), .val (.int p1), .val (.int p2), .val (.long p3), .second, .val (.long p4), .second, .val (.int p5), .val (.int (p0 &&& (3 : Int32))), .val (.int kb), .val (.int fa), .val (.int fb), .val (.int sb), .val (.long tb), .second, .val (.ref b6), .val (.ref b15), .val (.int (1 : Int32)), .val (.ref b15), .val (.int ex), .val (.int (own_eq (own_kd (p0 &&& (3 : Int32)) w_ELECTION w_REPLY w_RELEASE w_HEARTBEAT) (own_kd kb w_ELECTION w_REPLY w_RELEASE w_HEARTBEAT) p1 sb p3 tb fa fb)), .val (.int (1 : Int32)), .val (.int (1 : Int32))] [(.int (own_eq (own_kd (p0 &&& (3 : Int32)) w_ELECTION w_REPLY w_RELEASE w_HEARTBEAT) (own_kd kb w_ELECTION w_REPLY w_RELEASE w_HEARTBEAT) p1 sb p3 tb fa fb)), (.int (own_eq (own_kd kb w_ELECTION w_REPLY w_RELEASE w_HEARTBEAT) (own_kd (p0 &&& (3 : Int32)) w_ELECTION w_REPLY w_RELEASE w_HEARTBEAT) sb p1 tb p3 fb fa))]))
                have qS : (own_eq (own_kd kb w_ELECTION w_REPLY w_RELEASE w_HEARTBEAT) (own_kd (p0 &&& (3 : Int32)) w_ELECTION w_REPLY w_RELEASE w_HEARTBEAT) sb p1 tb p3 fb fa) = (own_eq (own_kd (p0 &&& (3 : Int32)) w_ELECTION w_REPLY w_RELEASE w_HEARTBEAT) (own_kd kb w_ELECTION w_REPLY w_RELEASE w_HEARTBEAT) p1 sb p3 tb fa fb) := own_eq_comm _ _ _ _ _ _ _ _
                refine own_st (fun t k => XS.icmpNo X56.here hx rfl (hb hby at_257) rfl (teq qS).2 k) ?_
                show own_Fin p e below _ (T56.setTop (mkF m 260 #[.val (.int p0), .val (.int p1), .val (.int p2), .val (.long p3), .second, .val (.long p4), .second, .val (.int p5), .val (.int (p0 &&& (3 : Int32))), .val (.int kb), .val (.int fa), .val (.int fb), .val (.int sb), .val (.long tb), .second, .val (.ref b6), .val (.ref b15), .val (.int (1 : Int32)), .val (.ref b15), .val (.int ex), .val (.int (own_eq (own_kd (p0 &&& (3 : Int32)) w_ELECTION w_REPLY w_RELEASE w_HEARTBEAT) (own_kd kb w_ELECTION w_REPLY w_RELEASE w_HEARTBEAT) p1 sb p3 tb fa fb)), .val (.int (1 : Int32)), .val (.int (1 : Int32))] []))
                refine own_st (fun t k => XS.iconst X56.here hx rfl (hb hby at_260) k) ?_
                show own_Fin p e below _ (T56.setTop (mkF m 261 #[.val (.int p0), .val (.int p1), .val (.int p2), .val (.long p3), .second, .val (.long p4), .second, .val (.int p5), .val (.int (p0 &&& (3 : Int32))), .val (.int kb), .val (.int fa), .val (.int fb), .val (.int sb), .val (.long tb), .second, .val (.ref b6), .val (.ref b15), .val (.int (1 : Int32)), .val (.ref b15), .val (.int ex), .val (.int (own_eq (own_kd (p0 &&& (3 : Int32)) w_ELECTION w_REPLY w_RELEASE w_HEARTBEAT) (own_kd kb w_ELECTION w_REPLY w_RELEASE w_HEARTBEAT) p1 sb p3 tb fa fb)), .val (.int (1 : Int32)), .val (.int (1 : Int32))] [(.int (1 : Int32))]))
                refine own_st (fun t k => XS.goto X56.here hx rfl (pc0 := 261) (pc' := 265) rfl (hb hby at_261) (by decide) (by decide) k) ?_
                show own_Fin p e below _ (T56.setTop (mkF m 265 #[.val (.int p0), .val (.int p1), .val (.int p2), .val (.long p3), .second, .val (.long p4), .second, .val (.int p5), .val (.int (p0 &&& (3 : Int32))), .val (.int kb), .val (.int fa), .val (.int fb), .val (.int sb), .val (.long tb), .second, .val (.ref b6), .val (.ref b15), .val (.int (1 : Int32)), .val (.ref b15), .val (.int ex), .val (.int (own_eq (own_kd (p0 &&& (3 : Int32)) w_ELECTION w_REPLY w_RELEASE w_HEARTBEAT) (own_kd kb w_ELECTION w_REPLY w_RELEASE w_HEARTBEAT) p1 sb p3 tb fa fb)), .val (.int (1 : Int32)), .val (.int (1 : Int32))] [(.int (1 : Int32))]))
                refine own_st (fun t k => XS.istore X56.here hx rfl (hb hby at_265) rfl (l' := #[.val (.int p0), .val (.int p1), .val (.int p2), .val (.long p3), .second, .val (.long p4), .second, .val (.int p5), .val (.int (p0 &&& (3 : Int32))), .val (.int kb), .val (.int fa), .val (.int fb), .val (.int sb), .val (.long tb), .second, .val (.ref b6), .val (.ref b15), .val (.int (1 : Int32)), .val (.ref b15), .val (.int ex), .val (.int (own_eq (own_kd (p0 &&& (3 : Int32)) w_ELECTION w_REPLY w_RELEASE w_HEARTBEAT) (own_kd kb w_ELECTION w_REPLY w_RELEASE w_HEARTBEAT) p1 sb p3 tb fa fb)), .val (.int (1 : Int32)), .val (.int (1 : Int32))]) rfl k) ?_
                show own_Fin p e below _ (T56.setTop (mkF m 267 #[.val (.int p0), .val (.int p1), .val (.int p2), .val (.long p3), .second, .val (.long p4), .second, .val (.int p5), .val (.int (p0 &&& (3 : Int32))), .val (.int kb), .val (.int fa), .val (.int fb), .val (.int sb), .val (.long tb), .second, .val (.ref b6), .val (.ref b15), .val (.int (1 : Int32)), .val (.ref b15), .val (.int ex), .val (.int (own_eq (own_kd (p0 &&& (3 : Int32)) w_ELECTION w_REPLY w_RELEASE w_HEARTBEAT) (own_kd kb w_ELECTION w_REPLY w_RELEASE w_HEARTBEAT) p1 sb p3 tb fa fb)), .val (.int (1 : Int32)), .val (.int (1 : Int32))] []))
                refine own_st (fun t k => XS.iload X56.here hx rfl (hb hby at_267) rfl k) ?_
                show own_Fin p e below _ (T56.setTop (mkF m 269 #[.val (.int p0), .val (.int p1), .val (.int p2), .val (.long p3), .second, .val (.long p4), .second, .val (.int p5), .val (.int (p0 &&& (3 : Int32))), .val (.int kb), .val (.int fa), .val (.int fb), .val (.int sb), .val (.long tb), .second, .val (.ref b6), .val (.ref b15), .val (.int (1 : Int32)), .val (.ref b15), .val (.int ex), .val (.int (own_eq (own_kd (p0 &&& (3 : Int32)) w_ELECTION w_REPLY w_RELEASE w_HEARTBEAT) (own_kd kb w_ELECTION w_REPLY w_RELEASE w_HEARTBEAT) p1 sb p3 tb fa fb)), .val (.int (1 : Int32)), .val (.int (1 : Int32))] [(.int (own_eq (own_kd (p0 &&& (3 : Int32)) w_ELECTION w_REPLY w_RELEASE w_HEARTBEAT) (own_kd kb w_ELECTION w_REPLY w_RELEASE w_HEARTBEAT) p1 sb p3 tb fa fb))]))
                refine own_st (fun t k => XS.iload X56.here hx rfl (hb hby at_269) rfl k) ?_
                show own_Fin p e below _ (T56.setTop (mkF m 271 #[.val (.int p0), .val (.int p1), .val (.int p2), .val (.long p3), .second, .val (.long p4), .second, .val (.int p5), .val (.int (p0 &&& (3 : Int32))), .val (.int kb), .val (.int fa), .val (.int fb), .val (.int sb), .val (.long tb), .second, .val (.ref b6), .val (.ref b15), .val (.int (1 : Int32)), .val (.ref b15), .val (.int ex), .val (.int (own_eq (own_kd (p0 &&& (3 : Int32)) w_ELECTION w_REPLY w_RELEASE w_HEARTBEAT) (own_kd kb w_ELECTION w_REPLY w_RELEASE w_HEARTBEAT) p1 sb p3 tb fa fb)), .val (.int (1 : Int32)), .val (.int (1 : Int32))] [(.int ex), (.int (own_eq (own_kd (p0 &&& (3 : Int32)) w_ELECTION w_REPLY w_RELEASE w_HEARTBEAT) (own_kd kb w_ELECTION w_REPLY w_RELEASE w_HEARTBEAT) p1 sb p3 tb fa fb))]))
                have F57 : Fld Z T22.heap w_ELECTION "java/lang/Enum" "ordinal" "I" (.int (0 : Int32)) := ((((F_ELECTION_ordinal.ext E6).keep K13q (ninS (Nat.ne_of_lt (Nat.lt_of_lt_of_le E_ELECTION.lt le_b6)) nin0)).ext E15).keep K22q (ninS (Nat.ne_of_lt (Nat.lt_of_lt_of_le ((E_ELECTION.ext E6).keep K13q).lt le_b15)) nin0))
                have F58 : Fld Z T22.heap w_REPLY "java/lang/Enum" "ordinal" "I" (.int (1 : Int32)) := ((((F_REPLY_ordinal.ext E6).keep K13q (ninS (Nat.ne_of_lt (Nat.lt_of_lt_of_le E_REPLY.lt le_b6)) nin0)).ext E15).keep K22q (ninS (Nat.ne_of_lt (Nat.lt_of_lt_of_le ((E_REPLY.ext E6).keep K13q).lt le_b15)) nin0))
                have D59 : w_ELECTION ≠ w_REPLY := (Fld.ne F57 F58 (by simp))
                have F60 : Fld Z T22.heap w_RELEASE "java/lang/Enum" "ordinal" "I" (.int (2 : Int32)) := ((((F_RELEASE_ordinal.ext E6).keep K13q (ninS (Nat.ne_of_lt (Nat.lt_of_lt_of_le E_RELEASE.lt le_b6)) nin0)).ext E15).keep K22q (ninS (Nat.ne_of_lt (Nat.lt_of_lt_of_le ((E_RELEASE.ext E6).keep K13q).lt le_b15)) nin0))
                have D61 : w_ELECTION ≠ w_RELEASE := (Fld.ne F57 F60 (by simp))
                have F62 : Fld Z T22.heap w_HEARTBEAT "java/lang/Enum" "ordinal" "I" (.int (3 : Int32)) := ((((F_HEARTBEAT_ordinal.ext E6).keep K13q (ninS (Nat.ne_of_lt (Nat.lt_of_lt_of_le E_HEARTBEAT.lt le_b6)) nin0)).ext E15).keep K22q (ninS (Nat.ne_of_lt (Nat.lt_of_lt_of_le ((E_HEARTBEAT.ext E6).keep K13q).lt le_b15)) nin0))
                have D63 : w_ELECTION ≠ w_HEARTBEAT := (Fld.ne F57 F62 (by simp))
                have D64 : w_REPLY ≠ w_RELEASE := (Fld.ne F58 F60 (by simp))
                have D65 : w_REPLY ≠ w_HEARTBEAT := (Fld.ne F58 F62 (by simp))
                have D66 : w_RELEASE ≠ w_HEARTBEAT := (Fld.ne F60 F62 (by simp))
                have qG : (own_eq (own_kd (p0 &&& (3 : Int32)) w_ELECTION w_REPLY w_RELEASE w_HEARTBEAT) (own_kd kb w_ELECTION w_REPLY w_RELEASE w_HEARTBEAT) p1 sb p3 tb fa fb) = ex := (own_got (own_kd_inj (own_mask4 _) hkb D59 D61 D63 D64 D65 D66) _ _ _ _ _ _).trans hex.symm
                refine own_st (fun t k => XS.icmpNo X56.here hx rfl (hb hby at_271) rfl (teq qG).2 k) ?_
                show own_Fin p e below _ (T56.setTop (mkF m 274 #[.val (.int p0), .val (.int p1), .val (.int p2), .val (.long p3), .second, .val (.long p4), .second, .val (.int p5), .val (.int (p0 &&& (3 : Int32))), .val (.int kb), .val (.int fa), .val (.int fb), .val (.int sb), .val (.long tb), .second, .val (.ref b6), .val (.ref b15), .val (.int (1 : Int32)), .val (.ref b15), .val (.int ex), .val (.int (own_eq (own_kd (p0 &&& (3 : Int32)) w_ELECTION w_REPLY w_RELEASE w_HEARTBEAT) (own_kd kb w_ELECTION w_REPLY w_RELEASE w_HEARTBEAT) p1 sb p3 tb fa fb)), .val (.int (1 : Int32)), .val (.int (1 : Int32))] []))
                refine own_st (fun t k => XS.iload X56.here hx rfl (hb hby at_274) rfl k) ?_
                show own_Fin p e below _ (T56.setTop (mkF m 276 #[.val (.int p0), .val (.int p1), .val (.int p2), .val (.long p3), .second, .val (.long p4), .second, .val (.int p5), .val (.int (p0 &&& (3 : Int32))), .val (.int kb), .val (.int fa), .val (.int fb), .val (.int sb), .val (.long tb), .second, .val (.ref b6), .val (.ref b15), .val (.int (1 : Int32)), .val (.ref b15), .val (.int ex), .val (.int (own_eq (own_kd (p0 &&& (3 : Int32)) w_ELECTION w_REPLY w_RELEASE w_HEARTBEAT) (own_kd kb w_ELECTION w_REPLY w_RELEASE w_HEARTBEAT) p1 sb p3 tb fa fb)), .val (.int (1 : Int32)), .val (.int (1 : Int32))] [(.int (1 : Int32))]))
                refine own_st (fun t k => XS.ifNo X56.here hx rfl (hb hby at_276) rfl (by decide) k) ?_
                show own_Fin p e below _ (T56.setTop (mkF m 279 #[.val (.int p0), .val (.int p1), .val (.int p2), .val (.long p3), .second, .val (.long p4), .second, .val (.int p5), .val (.int (p0 &&& (3 : Int32))), .val (.int kb), .val (.int fa), .val (.int fb), .val (.int sb), .val (.long tb), .second, .val (.ref b6), .val (.ref b15), .val (.int (1 : Int32)), .val (.ref b15), .val (.int ex), .val (.int (own_eq (own_kd (p0 &&& (3 : Int32)) w_ELECTION w_REPLY w_RELEASE w_HEARTBEAT) (own_kd kb w_ELECTION w_REPLY w_RELEASE w_HEARTBEAT) p1 sb p3 tb fa fb)), .val (.int (1 : Int32)), .val (.int (1 : Int32))] []))
                refine own_st (fun t k => XS.iload X56.here hx rfl (hb hby at_279) rfl k) ?_
                show own_Fin p e below _ (T56.setTop (mkF m 281 #[.val (.int p0), .val (.int p1), .val (.int p2), .val (.long p3), .second, .val (.long p4), .second, .val (.int p5), .val (.int (p0 &&& (3 : Int32))), .val (.int kb), .val (.int fa), .val (.int fb), .val (.int sb), .val (.long tb), .second, .val (.ref b6), .val (.ref b15), .val (.int (1 : Int32)), .val (.ref b15), .val (.int ex), .val (.int (own_eq (own_kd (p0 &&& (3 : Int32)) w_ELECTION w_REPLY w_RELEASE w_HEARTBEAT) (own_kd kb w_ELECTION w_REPLY w_RELEASE w_HEARTBEAT) p1 sb p3 tb fa fb)), .val (.int (1 : Int32)), .val (.int (1 : Int32))] [(.int (1 : Int32))]))
                refine own_st (fun t k => XS.ifNo X56.here hx rfl (hb hby at_281) rfl (by decide) k) ?_
                show own_Fin p e below _ (T56.setTop (mkF m 284 #[.val (.int p0), .val (.int p1), .val (.int p2), .val (.long p3), .second, .val (.long p4), .second, .val (.int p5), .val (.int (p0 &&& (3 : Int32))), .val (.int kb), .val (.int fa), .val (.int fb), .val (.int sb), .val (.long tb), .second, .val (.ref b6), .val (.ref b15), .val (.int (1 : Int32)), .val (.ref b15), .val (.int ex), .val (.int (own_eq (own_kd (p0 &&& (3 : Int32)) w_ELECTION w_REPLY w_RELEASE w_HEARTBEAT) (own_kd kb w_ELECTION w_REPLY w_RELEASE w_HEARTBEAT) p1 sb p3 tb fa fb)), .val (.int (1 : Int32)), .val (.int (1 : Int32))] []))
                refine own_st (fun t k => XS.iconst X56.here hx rfl (hb hby at_284) k) ?_
                show own_Fin p e below _ (T56.setTop (mkF m 285 #[.val (.int p0), .val (.int p1), .val (.int p2), .val (.long p3), .second, .val (.long p4), .second, .val (.int p5), .val (.int (p0 &&& (3 : Int32))), .val (.int kb), .val (.int fa), .val (.int fb), .val (.int sb), .val (.long tb), .second, .val (.ref b6), .val (.ref b15), .val (.int (1 : Int32)), .val (.ref b15), .val (.int ex), .val (.int (own_eq (own_kd (p0 &&& (3 : Int32)) w_ELECTION w_REPLY w_RELEASE w_HEARTBEAT) (own_kd kb w_ELECTION w_REPLY w_RELEASE w_HEARTBEAT) p1 sb p3 tb fa fb)), .val (.int (1 : Int32)), .val (.int (1 : Int32))] [(.int (1 : Int32))]))
                refine own_st (fun t k => XS.goto X56.here hx rfl (pc0 := 285) (pc' := 289) rfl (hb hby at_285) (by decide) (by decide) k) ?_
                show own_Fin p e below _ (T56.setTop (mkF m 289 #[.val (.int p0), .val (.int p1), .val (.int p2), .val (.long p3), .second, .val (.long p4), .second, .val (.int p5), .val (.int (p0 &&& (3 : Int32))), .val (.int kb), .val (.int fa), .val (.int fb), .val (.int sb), .val (.long tb), .second, .val (.ref b6), .val (.ref b15), .val (.int (1 : Int32)), .val (.ref b15), .val (.int ex), .val (.int (own_eq (own_kd (p0 &&& (3 : Int32)) w_ELECTION w_REPLY w_RELEASE w_HEARTBEAT) (own_kd kb w_ELECTION w_REPLY w_RELEASE w_HEARTBEAT) p1 sb p3 tb fa fb)), .val (.int (1 : Int32)), .val (.int (1 : Int32))] [(.int (1 : Int32))]))
                obtain ⟨fs, hr, hrun, hended, hW, hsame⟩ := X56.leave (v := some (.int (1 : Int32))) (fun h => by rw [Bd.returns] at h; cases h)
                exact ⟨_, _, retN X56 hx (t := .boolean) Bd.returns (by simp) (hb hby at_289) hr, hrun, hended, _, _, rfl, ⟨rfl, N56⟩, ⟨_, rfl⟩, hW, hsame.mono (by decide) (by decide)⟩
              by_cases qF47 : (p0 &&& (3 : Int32)) = kb
              ·
                refine own_st (fun t k => XS.icmpNo X22.here hx rfl (hb hby at_191) rfl (teq qF47).2 k) ?_
                show own_Fin p e below _ (T22.setTop (mkF m 194 #[.val (.int p0), .val (.int p1), .val (.int p2), .val (.long p3), .second, .val (.long p4), .second, .val (.int p5), .val (.int (p0 &&& (3 : Int32))), .val (.int kb), .val (.int fa), .val (.int fb), .val (.int sb), .val (.long tb), .second, .val (.ref b6), .val (.ref b15), .val (.int (1 : Int32)), .val (.ref b15), .unset, .unset, .unset, .unset] []))
                refine own_st (fun t k => XS.iloadN X22.here hx rfl (hb hby at_194) rfl k) ?_
                show own_Fin p e below _ (T22.setTop (mkF m 195 #[.val (.int p0), .val (.int p1), .val (.int p2), .val (.long p3), .second, .val (.long p4), .second, .val (.int p5), .val (.int (p0 &&& (3 : Int32))), .val (.int kb), .val (.int fa), .val (.int fb), .val (.int sb), .val (.long tb), .second, .val (.ref b6), .val (.ref b15), .val (.int (1 : Int32)), .val (.ref b15), .unset, .unset, .unset, .unset] [(.int p1)]))
                refine own_st (fun t k => XS.iload X22.here hx rfl (hb hby at_195) rfl k) ?_
                show own_Fin p e below _ (T22.setTop (mkF m 197 #[.val (.int p0), .val (.int p1), .val (.int p2), .val (.long p3), .second, .val (.long p4), .second, .val (.int p5), .val (.int (p0 &&& (3 : Int32))), .val (.int kb), .val (.int fa), .val (.int fb), .val (.int sb), .val (.long tb), .second, .val (.ref b6), .val (.ref b15), .val (.int (1 : Int32)), .val (.ref b15), .unset, .unset, .unset, .unset] [(.int sb), (.int p1)]))
                by_cases qF67 : p1 = sb
                ·
                  refine own_st (fun t k => XS.icmpNo X22.here hx rfl (hb hby at_197) rfl (teq qF67).2 k) ?_
                  show own_Fin p e below _ (T22.setTop (mkF m 200 #[.val (.int p0), .val (.int p1), .val (.int p2), .val (.long p3), .second, .val (.long p4), .second, .val (.int p5), .val (.int (p0 &&& (3 : Int32))), .val (.int kb), .val (.int fa), .val (.int fb), .val (.int sb), .val (.long tb), .second, .val (.ref b6), .val (.ref b15), .val (.int (1 : Int32)), .val (.ref b15), .unset, .unset, .unset, .unset] []))
                  refine own_st (fun t k => XS.lloadN X22.here hx rfl (hb hby at_200) rfl k) ?_
                  show own_Fin p e below _ (T22.setTop (mkF m 201 #[.val (.int p0), .val (.int p1), .val (.int p2), .val (.long p3), .second, .val (.long p4), .second, .val (.int p5), .val (.int (p0 &&& (3 : Int32))), .val (.int kb), .val (.int fa), .val (.int fb), .val (.int sb), .val (.long tb), .second, .val (.ref b6), .val (.ref b15), .val (.int (1 : Int32)), .val (.ref b15), .unset, .unset, .unset, .unset] [(.long p3)]))
                  refine own_st (fun t k => XS.lload X22.here hx rfl (hb hby at_201) rfl k) ?_
                  show own_Fin p e below _ (T22.setTop (mkF m 203 #[.val (.int p0), .val (.int p1), .val (.int p2), .val (.long p3), .second, .val (.long p4), .second, .val (.int p5), .val (.int (p0 &&& (3 : Int32))), .val (.int kb), .val (.int fa), .val (.int fb), .val (.int sb), .val (.long tb), .second, .val (.ref b6), .val (.ref b15), .val (.int (1 : Int32)), .val (.ref b15), .unset, .unset, .unset, .unset] [(.long tb), (.long p3)]))
                  refine own_st (fun t k => XS.lcmp X22.here hx rfl (hb hby at_203) rfl k) ?_
                  show own_Fin p e below _ (T22.setTop (mkF m 204 #[.val (.int p0), .val (.int p1), .val (.int p2), .val (.long p3), .second, .val (.long p4), .second, .val (.int p5), .val (.int (p0 &&& (3 : Int32))), .val (.int kb), .val (.int fa), .val (.int fb), .val (.int sb), .val (.long tb), .second, .val (.ref b6), .val (.ref b15), .val (.int (1 : Int32)), .val (.ref b15), .unset, .unset, .unset, .unset] [(.int (lcmpW p3 tb))]))
                  by_cases qF68 : p3 = tb
                  ·
                    refine own_st (fun t k => XS.ifNo X22.here hx rfl (hb hby at_204) rfl ((if0 _ _).trans (teq (Iff.mpr (lw_eq _ _) qF68)).2) k) ?_
                    show own_Fin p e below _ (T22.setTop (mkF m 207 #[.val (.int p0), .val (.int p1), .val (.int p2), .val (.long p3), .second, .val (.long p4), .second, .val (.int p5), .val (.int (p0 &&& (3 : Int32))), .val (.int kb), .val (.int fa), .val (.int fb), .val (.int sb), .val (.long tb), .second, .val (.ref b6), .val (.ref b15), .val (.int (1 : Int32)), .val (.ref b15), .unset, .unset, .unset, .unset] []))
                    refine own_st (fun t k => XS.iload X22.here hx rfl (hb hby at_207) rfl k) ?_
                    show own_Fin p e below _ (T22.setTop (mkF m 209 #[.val (.int p0), .val (.int p1), .val (.int p2), .val (.long p3), .second, .val (.long p4), .second, .val (.int p5), .val (.int (p0 &&& (3 : Int32))), .val (.int kb), .val (.int fa), .val (.int fb), .val (.int sb), .val (.long tb), .second, .val (.ref b6), .val (.ref b15), .val (.int (1 : Int32)), .val (.ref b15), .unset, .unset, .unset, .unset] [(.int fa)]))
                    refine own_st (fun t k => XS.iload X22.here hx rfl (hb hby at_209) rfl k) ?_
                    show own_Fin p e below _ (T22.setTop (mkF m 211 #[.val (.int p0), .val (.int p1), .val (.int p2), .val (.long p3), .second, .val (.long p4), .second, .val (.int p5), .val (.int (p0 &&& (3 : Int32))), .val (.int kb), .val (.int fa), .val (.int fb), .val (.int sb), .val (.long tb), .second, .val (.ref b6), .val (.ref b15), .val (.int (1 : Int32)), .val (.ref b15), .unset, .unset, .unset, .unset] [(.int fb), (.int fa)]))
                    by_cases qF69 : fa = fb
                    ·
                      refine own_st (fun t k => XS.icmpNo X22.here hx rfl (hb hby at_211) rfl (teq qF69).2 k) ?_
                      show own_Fin p e below _ (T22.setTop (mkF m 214 #[.val (.int p0), .val (.int p1), .val (.int p2), .val (.long p3), .second, .val (.long p4), .second, .val (.int p5), .val (.int (p0 &&& (3 : Int32))), .val (.int kb), .val (.int fa), .val (.int fb), .val (.int sb), .val (.long tb), .second, .val (.ref b6), .val (.ref b15), .val (.int (1 : Int32)), .val (.ref b15), .unset, .unset, .unset, .unset] []))
                      refine own_st (fun t k => XS.iconst X22.here hx rfl (hb hby at_214) k) ?_
                      show own_Fin p e below _ (T22.setTop (mkF m 215 #[.val (.int p0), .val (.int p1), .val (.int p2), .val (.long p3), .second, .val (.long p4), .second, .val (.int p5), .val (.int (p0 &&& (3 : Int32))), .val (.int kb), .val (.int fa), .val (.int fb), .val (.int sb), .val (.long tb), .second, .val (.ref b6), .val (.ref b15), .val (.int (1 : Int32)), .val (.ref b15), .unset, .unset, .unset, .unset] [(.int (1 : Int32))]))
                      refine own_st (fun t k => XS.goto X22.here hx rfl (pc0 := 215) (pc' := 219) rfl (hb hby at_215) (by decide) (by decide) k) ?_
                      show own_Fin p e below _ (T22.setTop (mkF m 219 #[.val (.int p0), .val (.int p1), .val (.int p2), .val (.long p3), .second, .val (.long p4), .second, .val (.int p5), .val (.int (p0 &&& (3 : Int32))), .val (.int kb), .val (.int fa), .val (.int fb), .val (.int sb), .val (.long tb), .second, .val (.ref b6), .val (.ref b15), .val (.int (1 : Int32)), .val (.ref b15), .unset, .unset, .unset, .unset] [(.int (1 : Int32))]))
                      exact J219 (1 : Int32) (by simp [own_ex, qF47, qF67, qF68, qF69])
                    ·
                      refine own_st (fun t k => XS.icmpYes X22.here hx rfl (pc0 := 211) (pc' := 218) rfl (hb hby at_211) rfl (feq qF69).2 (by decide) (by decide) k) ?_
                      show own_Fin p e below _ (T22.setTop (mkF m 218 #[.val (.int p0), .val (.int p1), .val (.int p2), .val (.long p3), .second, .val (.long p4), .second, .val (.int p5), .val (.int (p0 &&& (3 : Int32))), .val (.int kb), .val (.int fa), .val (.int fb), .val (.int sb), .val (.long tb), .second, .val (.ref b6), .val (.ref b15), .val (.int (1 : Int32)), .val (.ref b15), .unset, .unset, .unset, .unset] []))
                      refine own_st (fun t k => XS.iconst X22.here hx rfl (hb hby at_218) k) ?_
                      show own_Fin p e below _ (T22.setTop (mkF m 219 #[.val (.int p0), .val (.int p1), .val (.int p2), .val (.long p3), .second, .val (.long p4), .second, .val (.int p5), .val (.int (p0 &&& (3 : Int32))), .val (.int kb), .val (.int fa), .val (.int fb), .val (.int sb), .val (.long tb), .second, .val (.ref b6), .val (.ref b15), .val (.int (1 : Int32)), .val (.ref b15), .unset, .unset, .unset, .unset] [(.int (0 : Int32))]))
                      exact J219 (0 : Int32) (by simp [own_ex, qF47, qF67, qF68, qF69])
                  ·
                    refine own_st (fun t k => XS.ifYes X22.here hx rfl (pc0 := 204) (pc' := 218) rfl (hb hby at_204) rfl ((if0 _ _).trans (feq (mt (lw_eq _ _).1 qF68)).2) (by decide) (by decide) k) ?_
                    show own_Fin p e below _ (T22.setTop (mkF m 218 #[.val (.int p0), .val (.int p1), .val (.int p2), .val (.long p3), .second, .val (.long p4), .second, .val (.int p5), .val (.int (p0 &&& (3 : Int32))), .val (.int kb), .val (.int fa), .val (.int fb), .val (.int sb), .val (.long tb), .second, .val (.ref b6), .val (.ref b15), .val (.int (1 : Int32)), .val (.ref b15), .unset, .unset, .unset, .unset] []))
                    refine own_st (fun t k => XS.iconst X22.here hx rfl (hb hby at_218) k) ?_
                    show own_Fin p e below _ (T22.setTop (mkF m 219 #[.val (.int p0), .val (.int p1), .val (.int p2), .val (.long p3), .second, .val (.long p4), .second, .val (.int p5), .val (.int (p0 &&& (3 : Int32))), .val (.int kb), .val (.int fa), .val (.int fb), .val (.int sb), .val (.long tb), .second, .val (.ref b6), .val (.ref b15), .val (.int (1 : Int32)), .val (.ref b15), .unset, .unset, .unset, .unset] [(.int (0 : Int32))]))
                    exact J219 (0 : Int32) (by simp [own_ex, qF47, qF67, qF68])
                ·
                  refine own_st (fun t k => XS.icmpYes X22.here hx rfl (pc0 := 197) (pc' := 218) rfl (hb hby at_197) rfl (feq qF67).2 (by decide) (by decide) k) ?_
                  show own_Fin p e below _ (T22.setTop (mkF m 218 #[.val (.int p0), .val (.int p1), .val (.int p2), .val (.long p3), .second, .val (.long p4), .second, .val (.int p5), .val (.int (p0 &&& (3 : Int32))), .val (.int kb), .val (.int fa), .val (.int fb), .val (.int sb), .val (.long tb), .second, .val (.ref b6), .val (.ref b15), .val (.int (1 : Int32)), .val (.ref b15), .unset, .unset, .unset, .unset] []))
                  refine own_st (fun t k => XS.iconst X22.here hx rfl (hb hby at_218) k) ?_
                  show own_Fin p e below _ (T22.setTop (mkF m 219 #[.val (.int p0), .val (.int p1), .val (.int p2), .val (.long p3), .second, .val (.long p4), .second, .val (.int p5), .val (.int (p0 &&& (3 : Int32))), .val (.int kb), .val (.int fa), .val (.int fb), .val (.int sb), .val (.long tb), .second, .val (.ref b6), .val (.ref b15), .val (.int (1 : Int32)), .val (.ref b15), .unset, .unset, .unset, .unset] [(.int (0 : Int32))]))
                  exact J219 (0 : Int32) (by simp [own_ex, qF47, qF67])
              ·
                refine own_st (fun t k => XS.icmpYes X22.here hx rfl (pc0 := 191) (pc' := 218) rfl (hb hby at_191) rfl (feq qF47).2 (by decide) (by decide) k) ?_
                show own_Fin p e below _ (T22.setTop (mkF m 218 #[.val (.int p0), .val (.int p1), .val (.int p2), .val (.long p3), .second, .val (.long p4), .second, .val (.int p5), .val (.int (p0 &&& (3 : Int32))), .val (.int kb), .val (.int fa), .val (.int fb), .val (.int sb), .val (.long tb), .second, .val (.ref b6), .val (.ref b15), .val (.int (1 : Int32)), .val (.ref b15), .unset, .unset, .unset, .unset] []))
                refine own_st (fun t k => XS.iconst X22.here hx rfl (hb hby at_218) k) ?_
                show own_Fin p e below _ (T22.setTop (mkF m 219 #[.val (.int p0), .val (.int p1), .val (.int p2), .val (.long p3), .second, .val (.long p4), .second, .val (.int p5), .val (.int (p0 &&& (3 : Int32))), .val (.int kb), .val (.int fa), .val (.int fb), .val (.int sb), .val (.long tb), .second, .val (.ref b6), .val (.ref b15), .val (.int (1 : Int32)), .val (.ref b15), .unset, .unset, .unset, .unset] [(.int (0 : Int32))]))
                exact J219 (0 : Int32) (by simp [own_ex, qF47])
            ·
              rw [qL142]
              show own_Fin p e below _ (T22.setTop (mkF m 142 #[.val (.int p0), .val (.int p1), .val (.int p2), .val (.long p3), .second, .val (.long p4), .second, .val (.int p5), .val (.int (p0 &&& (3 : Int32))), .val (.int kb), .val (.int fa), .val (.int fb), .val (.int sb), .val (.long tb), .second, .val (.ref b6), .val (.ref b15), .val (.int (2 : Int32)), .unset, .unset, .unset, .unset, .unset] []))
              refine own_st (fun t k => XS.iload X22.here hx rfl (hb hby at_142) rfl k) ?_
              show own_Fin p e below _ (T22.setTop (mkF m 144 #[.val (.int p0), .val (.int p1), .val (.int p2), .val (.long p3), .second, .val (.long p4), .second, .val (.int p5), .val (.int (p0 &&& (3 : Int32))), .val (.int kb), .val (.int fa), .val (.int fb), .val (.int sb), .val (.long tb), .second, .val (.ref b6), .val (.ref b15), .val (.int (2 : Int32)), .unset, .unset, .unset, .unset, .unset] [(.int (2 : Int32))]))
              refine own_st (fun t k => XS.iconst X22.here hx rfl (hb hby at_144) k) ?_
              show own_Fin p e below _ (T22.setTop (mkF m 145 #[.val (.int p0), .val (.int p1), .val (.int p2), .val (.long p3), .second, .val (.long p4), .second, .val (.int p5), .val (.int (p0 &&& (3 : Int32))), .val (.int kb), .val (.int fa), .val (.int fb), .val (.int sb), .val (.long tb), .second, .val (.ref b6), .val (.ref b15), .val (.int (2 : Int32)), .unset, .unset, .unset, .unset, .unset] [(.int (2 : Int32)), (.int (2 : Int32))]))
              refine own_st (fun t k => XS.icmpNo X22.here hx rfl (hb hby at_145) rfl (by decide) k) ?_
              show own_Fin p e below _ (T22.setTop (mkF m 148 #[.val (.int p0), .val (.int p1), .val (.int p2), .val (.long p3), .second, .val (.long p4), .second, .val (.int p5), .val (.int (p0 &&& (3 : Int32))), .val (.int kb), .val (.int fa), .val (.int fb), .val (.int sb), .val (.long tb), .second, .val (.ref b6), .val (.ref b15), .val (.int (2 : Int32)), .unset, .unset, .unset, .unset, .unset] []))
              refine own_st (fun t k => XS.aconstNull X22.here hx rfl (hb hby at_148) k) ?_
              show own_Fin p e below _ (T22.setTop (mkF m 149 #[.val (.int p0), .val (.int p1), .val (.int p2), .val (.long p3), .second, .val (.long p4), .second, .val (.int p5), .val (.int (p0 &&& (3 : Int32))), .val (.int kb), .val (.int fa), .val (.int fb), .val (.int sb), .val (.long tb), .second, .val (.ref b6), .val (.ref b15), .val (.int (2 : Int32)), .unset, .unset, .unset, .unset, .unset] [.null]))
              refine own_st (fun t k => XS.astore X22.here hx rfl (hb hby at_149) rfl rfl (l' := #[.val (.int p0), .val (.int p1), .val (.int p2), .val (.long p3), .second, .val (.long p4), .second, .val (.int p5), .val (.int (p0 &&& (3 : Int32))), .val (.int kb), .val (.int fa), .val (.int fb), .val (.int sb), .val (.long tb), .second, .val (.ref b6), .val (.ref b15), .val (.int (2 : Int32)), .val .null, .unset, .unset, .unset, .unset]) rfl k) ?_
              show own_Fin p e below _ (T22.setTop (mkF m 151 #[.val (.int p0), .val (.int p1), .val (.int p2), .val (.long p3), .second, .val (.long p4), .second, .val (.int p5), .val (.int (p0 &&& (3 : Int32))), .val (.int kb), .val (.int fa), .val (.int fb), .val (.int sb), .val (.long tb), .second, .val (.ref b6), .val (.ref b15), .val (.int (2 : Int32)), .val .null, .unset, .unset, .unset, .unset] []))
              refine own_st (fun t k => XS.goto X22.here hx rfl (pc0 := 151) (pc' := 181) rfl (hb hby at_151) (by decide) (by decide) k) ?_
              show own_Fin p e below _ (T22.setTop (mkF m 181 #[.val (.int p0), .val (.int p1), .val (.int p2), .val (.long p3), .second, .val (.long p4), .second, .val (.int p5), .val (.int (p0 &&& (3 : Int32))), .val (.int kb), .val (.int fa), .val (.int fb), .val (.int sb), .val (.long tb), .second, .val (.ref b6), .val (.ref b15), .val (.int (2 : Int32)), .val .null, .unset, .unset, .unset, .unset] []))
              refine own_st (fun t k => XS.iload X22.here hx rfl (hb hby at_181) rfl k) ?_
              show own_Fin p e below _ (T22.setTop (mkF m 183 #[.val (.int p0), .val (.int p1), .val (.int p2), .val (.long p3), .second, .val (.long p4), .second, .val (.int p5), .val (.int (p0 &&& (3 : Int32))), .val (.int kb), .val (.int fa), .val (.int fb), .val (.int sb), .val (.long tb), .second, .val (.ref b6), .val (.ref b15), .val (.int (2 : Int32)), .val .null, .unset, .unset, .unset, .unset] [(.int (2 : Int32))]))
              refine own_st (fun t k => XS.iconst X22.here hx rfl (hb hby at_183) k) ?_
              show own_Fin p e below _ (T22.setTop (mkF m 184 #[.val (.int p0), .val (.int p1), .val (.int p2), .val (.long p3), .second, .val (.long p4), .second, .val (.int p5), .val (.int (p0 &&& (3 : Int32))), .val (.int kb), .val (.int fa), .val (.int fb), .val (.int sb), .val (.long tb), .second, .val (.ref b6), .val (.ref b15), .val (.int (2 : Int32)), .val .null, .unset, .unset, .unset, .unset] [(.int (2 : Int32)), (.int (2 : Int32))]))
              refine own_st (fun t k => XS.icmpYes X22.here hx rfl (pc0 := 184) (pc' := 218) rfl (hb hby at_184) rfl (by decide) (by decide) (by decide) k) ?_
              show own_Fin p e below _ (T22.setTop (mkF m 218 #[.val (.int p0), .val (.int p1), .val (.int p2), .val (.long p3), .second, .val (.long p4), .second, .val (.int p5), .val (.int (p0 &&& (3 : Int32))), .val (.int kb), .val (.int fa), .val (.int fb), .val (.int sb), .val (.long tb), .second, .val (.ref b6), .val (.ref b15), .val (.int (2 : Int32)), .val .null, .unset, .unset, .unset, .unset] []))
              refine own_st (fun t k => XS.iconst X22.here hx rfl (hb hby at_218) k) ?_
              show own_Fin p e below _ (T22.setTop (mkF m 219 #[.val (.int p0), .val (.int p1), .val (.int p2), .val (.long p3), .second, .val (.long p4), .second, .val (.int p5), .val (.int (p0 &&& (3 : Int32))), .val (.int kb), .val (.int fa), .val (.int fb), .val (.int sb), .val (.long tb), .second, .val (.ref b6), .val (.ref b15), .val (.int (2 : Int32)), .val .null, .unset, .unset, .unset, .unset] [(.int (0 : Int32))]))
              refine own_st (fun t k => XS.istore X22.here hx rfl (hb hby at_219) rfl (l' := #[.val (.int p0), .val (.int p1), .val (.int p2), .val (.long p3), .second, .val (.long p4), .second, .val (.int p5), .val (.int (p0 &&& (3 : Int32))), .val (.int kb), .val (.int fa), .val (.int fb), .val (.int sb), .val (.long tb), .second, .val (.ref b6), .val (.ref b15), .val (.int (2 : Int32)), .val .null, .val (.int (0 : Int32)), .unset, .unset, .unset]) rfl k) ?_
              show own_Fin p e below _ (T22.setTop (mkF m 221 #[.val (.int p0), .val (.int p1), .val (.int p2), .val (.long p3), .second, .val (.long p4), .second, .val (.int p5), .val (.int (p0 &&& (3 : Int32))), .val (.int kb), .val (.int fa), .val (.int fb), .val (.int sb), .val (.long tb), .second, .val (.ref b6), .val (.ref b15), .val (.int (2 : Int32)), .val .null, .val (.int (0 : Int32)), .unset, .unset, .unset] []))
              refine own_st (fun t k => XS.aload X22.here hx rfl (hb hby at_221) rfl rfl k) ?_
              show own_Fin p e below _ (T22.setTop (mkF m 223 #[.val (.int p0), .val (.int p1), .val (.int p2), .val (.long p3), .second, .val (.long p4), .second, .val (.int p5), .val (.int (p0 &&& (3 : Int32))), .val (.int kb), .val (.int fa), .val (.int fb), .val (.int sb), .val (.long tb), .second, .val (.ref b6), .val (.ref b15), .val (.int (2 : Int32)), .val .null, .val (.int (0 : Int32)), .unset, .unset, .unset] [(.ref b6)]))
              refine own_st (fun t k => XS.aload X22.here hx rfl (hb hby at_223) rfl rfl k) ?_
              show own_Fin p e below _ (T22.setTop (mkF m 225 #[.val (.int p0), .val (.int p1), .val (.int p2), .val (.long p3), .second, .val (.long p4), .second, .val (.int p5), .val (.int (p0 &&& (3 : Int32))), .val (.int kb), .val (.int fa), .val (.int fb), .val (.int sb), .val (.long tb), .second, .val (.ref b6), .val (.ref b15), .val (.int (2 : Int32)), .val .null, .val (.int (0 : Int32)), .unset, .unset, .unset] [.null, (.ref b6)]))
              have F71 : Exa Z T22.heap b6 "com/example/deioces/deioces/Message" := (((A6.keep K13q).ext E15).keep K22q)
              obtain ⟨cq70, kq70, q70a, q70b, q70c⟩ := isOf hZ rfl F71
              obtain ⟨_, _, ⟨T70, L70, k70, n70⟩, -, X70, ⟨Lc70, hQ70, l70, y70, z70⟩, st70⟩ := X22.virtualBack hx (y := (⟨"com/example/deioces/deioces/Message", "equals", "(Ljava/lang/Object;)Z"⟩ : MethodName)) (z := (⟨"com/example/deioces/deioces/Message", "equals", "(Ljava/lang/Object;)Z"⟩ : MethodName)) hown (mvT hZ (hw _ (List.mem_of_getElem? (i := 24) rfl))) (mvT hZ (hw _ (List.mem_of_getElem? (i := 25) rfl))) (notFace_of_selects (args := #[]) (mvT hZ (hw _ (List.mem_of_getElem? (i := 27) rfl)))) (mvT hZ (hw _ (List.mem_of_getElem? (i := 27) rfl))) (mvT hZ (hw _ (List.mem_of_getElem? (i := 26) rfl))) (by decide) (backOf (W := 0) (rm4_9 l Z a0 hw [] b6 T22.heap n0 Z23) hZ (hw _ (List.mem_of_getElem? (i := 28) rfl)) (hw _ (List.mem_of_getElem? (i := 2) rfl)) (by decide) (by decide)) q70a q70c (g := (mkF m 225 #[.val (.int p0), .val (.int p1), .val (.int p2), .val (.long p3), .second, .val (.long p4), .second, .val (.int p5), .val (.int (p0 &&& (3 : Int32))), .val (.int kb), .val (.int fa), .val (.int fb), .val (.int sb), .val (.long tb), .second, .val (.ref b6), .val (.ref b15), .val (.int (2 : Int32)), .val .null, .val (.int (0 : Int32)), .unset, .unset, .unset] [.null, (.ref b6)])) rfl (by rw [hml]; rfl) (Steps.refl _) (argsL := [.null]) (rest := []) (lenOf pd__Ljava_lang_Object__Z rfl) rfl (by show 2 * 0 + _ ≤ _; exact Nat.le_of_eq rfl) (hb hby at_225) (fun _ _ => ⟨rfl, rfl, (by decide : 2 + 0 ≤ _), (by decide : 8 + 0 ≤ _)⟩)
              dsimp only [Pt.U, Pt.locs, Pt.cells, Pt.slots] at X70 l70 y70 z70 st70 hQ70
              subst l70 y70 z70
              obtain ⟨rfl, N70q, e70⟩ := hQ70
              have N70 := Fr.app N22 N70q
              refine own_tr st70 ?_
              show own_Fin p e below _ (T70.setTop (mkF m 228 #[.val (.int p0), .val (.int p1), .val (.int p2), .val (.long p3), .second, .val (.long p4), .second, .val (.int p5), .val (.int (p0 &&& (3 : Int32))), .val (.int kb), .val (.int fa), .val (.int fb), .val (.int sb), .val (.long tb), .second, .val (.ref b6), .val (.ref b15), .val (.int (2 : Int32)), .val .null, .val (.int (0 : Int32)), .unset, .unset, .unset] [(.int (0 : Int32))]))
              refine own_st (fun t k => XS.istore X70.here hx rfl (hb hby at_228) rfl (l' := #[.val (.int p0), .val (.int p1), .val (.int p2), .val (.long p3), .second, .val (.long p4), .second, .val (.int p5), .val (.int (p0 &&& (3 : Int32))), .val (.int kb), .val (.int fa), .val (.int fb), .val (.int sb), .val (.long tb), .second, .val (.ref b6), .val (.ref b15), .val (.int (2 : Int32)), .val .null, .val (.int (0 : Int32)), .val (.int (0 : Int32)), .unset, .unset]) rfl k) ?_
              show own_Fin p e below _ (T70.setTop (mkF m 230 #[.val (.int p0), .val (.int p1), .val (.int p2), .val (.long p3), .second, .val (.long p4), .second, .val (.int p5), .val (.int (p0 &&& (3 : Int32))), .val (.int kb), .val (.int fa), .val (.int fb), .val (.int sb), .val (.long tb), .second, .val (.ref b6), .val (.ref b15), .val (.int (2 : Int32)), .val .null, .val (.int (0 : Int32)), .val (.int (0 : Int32)), .unset, .unset] []))
              refine own_st (fun t k => XS.aload X70.here hx rfl (hb hby at_230) rfl rfl k) ?_
              show own_Fin p e below _ (T70.setTop (mkF m 232 #[.val (.int p0), .val (.int p1), .val (.int p2), .val (.long p3), .second, .val (.long p4), .second, .val (.int p5), .val (.int (p0 &&& (3 : Int32))), .val (.int kb), .val (.int fa), .val (.int fb), .val (.int sb), .val (.long tb), .second, .val (.ref b6), .val (.ref b15), .val (.int (2 : Int32)), .val .null, .val (.int (0 : Int32)), .val (.int (0 : Int32)), .unset, .unset] [(.ref b6)]))
              refine own_st (fun t k => XS.aload X70.here hx rfl (hb hby at_232) rfl rfl k) ?_
              show own_Fin p e below _ (T70.setTop (mkF m 234 #[.val (.int p0), .val (.int p1), .val (.int p2), .val (.long p3), .second, .val (.long p4), .second, .val (.int p5), .val (.int (p0 &&& (3 : Int32))), .val (.int kb), .val (.int fa), .val (.int fb), .val (.int sb), .val (.long tb), .second, .val (.ref b6), .val (.ref b15), .val (.int (2 : Int32)), .val .null, .val (.int (0 : Int32)), .val (.int (0 : Int32)), .unset, .unset] [(.ref b6), (.ref b6)]))
              have F73 : Fld Z T22.heap b6 "com/example/deioces/deioces/Message" "kind" "Lcom/example/deioces/deioces/Message$Kind;" (.ref (own_kd (p0 &&& (3 : Int32)) w_ELECTION w_REPLY w_RELEASE w_HEARTBEAT)) := ((G13_0.ext E15).keep K22q (ninS (Nat.ne_of_lt (Nat.lt_of_lt_of_le (A6.keep K13q).lt le_b15)) nin0))
              have F74 : Fld Z T22.heap b6 "com/example/deioces/deioces/Message" "sender" "I" (.int p1) := ((G13_1.ext E15).keep K22q (ninS (Nat.ne_of_lt (Nat.lt_of_lt_of_le (A6.keep K13q).lt le_b15)) nin0))
              have F75 : Fld Z T22.heap b6 "com/example/deioces/deioces/Message" "stamp" "J" (.long p3) := ((G13_2.ext E15).keep K22q (ninS (Nat.ne_of_lt (Nat.lt_of_lt_of_le (A6.keep K13q).lt le_b15)) nin0))
              have F76 : Fld Z T22.heap b6 "com/example/deioces/deioces/Message" "supportive" "Z" (.int fa) := ((G13_3.ext E15).keep K22q (ninS (Nat.ne_of_lt (Nat.lt_of_lt_of_le (A6.keep K13q).lt le_b15)) nin0))
              obtain ⟨cq72, kq72, q72a, q72b, q72c⟩ := isOf hZ e70 F71
              obtain ⟨_, _, ⟨T72, L72, k72, n72⟩, -, X72, ⟨Lc72, hQ72, l72, y72, z72⟩, st72⟩ := X70.virtualBack hx (y := (⟨"com/example/deioces/deioces/Message", "equals", "(Ljava/lang/Object;)Z"⟩ : MethodName)) (z := (⟨"com/example/deioces/deioces/Message", "equals", "(Ljava/lang/Object;)Z"⟩ : MethodName)) hown (mvT hZ (hw _ (List.mem_of_getElem? (i := 24) rfl))) (mvT hZ (hw _ (List.mem_of_getElem? (i := 25) rfl))) (notFace_of_selects (args := #[]) (mvT hZ (hw _ (List.mem_of_getElem? (i := 27) rfl)))) (mvT hZ (hw _ (List.mem_of_getElem? (i := 27) rfl))) (mvT hZ (hw _ (List.mem_of_getElem? (i := 26) rfl))) (by decide) (backOf (W := 0) (rm4_10 l Z a0 hw [] b6 (own_kd (p0 &&& (3 : Int32)) w_ELECTION w_REPLY w_RELEASE w_HEARTBEAT) p1 p3 fa T22.heap n0 Z23 F71 F73 F74 F75 hfa F76) hZ (hw _ (List.mem_of_getElem? (i := 28) rfl)) (hw _ (List.mem_of_getElem? (i := 2) rfl)) (by decide) (by decide)) q72a q72c (g := (mkF m 234 #[.val (.int p0), .val (.int p1), .val (.int p2), .val (.long p3), .second, .val (.long p4), .second, .val (.int p5), .val (.int (p0 &&& (3 : Int32))), .val (.int kb), .val (.int fa), .val (.int fb), .val (.int sb), .val (.long tb), .second, .val (.ref b6), .val (.ref b15), .val (.int (2 : Int32)), .val .null, .val (.int (0 : Int32)), .val (.int (0 : Int32)), .unset, .unset] [(.ref b6), (.ref b6)])) rfl (by rw [hml]; rfl) (Steps.refl _) (argsL := [(.ref b6)]) (rest := []) (lenOf pd__Ljava_lang_Object__Z rfl) rfl (by show 2 * 0 + _ ≤ _; exact Nat.le_of_eq rfl) (hb hby at_234) (fun _ _ => ⟨rfl, e70, (by decide : 2 + 0 ≤ _), (by decide : 8 + 0 ≤ _)⟩)
              dsimp only [Pt.U, Pt.locs, Pt.cells, Pt.slots] at X72 l72 y72 z72 st72 hQ72
              subst l72 y72 z72
              obtain ⟨rfl, N72q, e72⟩ := hQ72
              have N72 := Fr.app N70 N72q
              refine own_tr st72 ?_
              show own_Fin p e below _ (T72.setTop (mkF m 237 #[.val (.int p0), .val (.int p1), .val (.int p2), .val (.long p3), .second, .val (.long p4), .second, .val (.int p5), .val (.int (p0 &&& (3 : Int32))), .val (.int kb), .val (.int fa), .val (.int fb), .val (.int sb), .val (.long tb), .second, .val (.ref b6), .val (.ref b15), .val (.int (2 : Int32)), .val .null, .val (.int (0 : Int32)), .val (.int (0 : Int32)), .unset, .unset] [(.int (1 : Int32))]))
              refine own_st (fun t k => XS.istore X72.here hx rfl (hb hby at_237) rfl (l' := #[.val (.int p0), .val (.int p1), .val (.int p2), .val (.long p3), .second, .val (.long p4), .second, .val (.int p5), .val (.int (p0 &&& (3 : Int32))), .val (.int kb), .val (.int fa), .val (.int fb), .val (.int sb), .val (.long tb), .second, .val (.ref b6), .val (.ref b15), .val (.int (2 : Int32)), .val .null, .val (.int (0 : Int32)), .val (.int (0 : Int32)), .val (.int (1 : Int32)), .unset]) rfl k) ?_
              show own_Fin p e below _ (T72.setTop (mkF m 239 #[.val (.int p0), .val (.int p1), .val (.int p2), .val (.long p3), .second, .val (.long p4), .second, .val (.int p5), .val (.int (p0 &&& (3 : Int32))), .val (.int kb), .val (.int fa), .val (.int fb), .val (.int sb), .val (.long tb), .second, .val (.ref b6), .val (.ref b15), .val (.int (2 : Int32)), .val .null, .val (.int (0 : Int32)), .val (.int (0 : Int32)), .val (.int (1 : Int32)), .unset] []))
              refine own_st (fun t k => XS.iconst X72.here hx rfl (hb hby at_239) k) ?_
              show own_Fin p e below _ (T72.setTop (mkF m 240 #[.val (.int p0), .val (.int p1), .val (.int p2), .val (.long p3), .second, .val (.long p4), .second, .val (.int p5), .val (.int (p0 &&& (3 : Int32))), .val (.int kb), .val (.int fa), .val (.int fb), .val (.int sb), .val (.long tb), .second, .val (.ref b6), .val (.ref b15), .val (.int (2 : Int32)), .val .null, .val (.int (0 : Int32)), .val (.int (0 : Int32)), .val (.int (1 : Int32)), .unset] [(.int (1 : Int32))]))
              refine own_st (fun t k => XS.istore X72.here hx rfl (hb hby at_240) rfl (l' := #[.val (.int p0), .val (.int p1), .val (.int p2), .val (.long p3), .second, .val (.long p4), .second, .val (.int p5), .val (.int (p0 &&& (3 : Int32))), .val (.int kb), .val (.int fa), .val (.int fb), .val (.int sb), .val (.long tb), .second, .val (.ref b6), .val (.ref b15), .val (.int (2 : Int32)), .val .null, .val (.int (0 : Int32)), .val (.int (0 : Int32)), .val (.int (1 : Int32)), .val (.int (1 : Int32))]) rfl k) ?_
              show own_Fin p e below _ (T72.setTop (mkF m 242 #[.val (.int p0), .val (.int p1), .val (.int p2), .val (.long p3), .second, .val (.long p4), .second, .val (.int p5), .val (.int (p0 &&& (3 : Int32))), .val (.int kb), .val (.int fa), .val (.int fb), .val (.int sb), .val (.long tb), .second, .val (.ref b6), .val (.ref b15), .val (.int (2 : Int32)), .val .null, .val (.int (0 : Int32)), .val (.int (0 : Int32)), .val (.int (1 : Int32)), .val (.int (1 : Int32))] []))
              refine own_st (fun t k => XS.iload X72.here hx rfl (hb hby at_242) rfl k) ?_
              show own_Fin p e below _ (T72.setTop (mkF m 244 #[.val (.int p0), .val (.int p1), .val (.int p2), .val (.long p3), .second, .val (.long p4), .second, .val (.int p5), .val (.int (p0 &&& (3 : Int32))), .val (.int kb), .val (.int fa), .val (.int fb), .val (.int sb), .val (.long tb), .second, .val (.ref b6), .val (.ref b15), .val (.int (2 : Int32)), .val .null, .val (.int (0 : Int32)), .val (.int (0 : Int32)), .val (.int (1 : Int32)), .val (.int (1 : Int32))] [(.int (2 : Int32))]))
              refine own_st (fun t k => XS.iconst X72.here hx rfl (hb hby at_244) k) ?_
              show own_Fin p e below _ (T72.setTop (mkF m 245 #[.val (.int p0), .val (.int p1), .val (.int p2), .val (.long p3), .second, .val (.long p4), .second, .val (.int p5), .val (.int (p0 &&& (3 : Int32))), .val (.int kb), .val (.int fa), .val (.int fb), .val (.int sb), .val (.long tb), .second, .val (.ref b6), .val (.ref b15), .val (.int (2 : Int32)), .val .null, .val (.int (0 : Int32)), .val (.int (0 : Int32)), .val (.int (1 : Int32)), .val (.int (1 : Int32))] [(.int (2 : Int32)), (.int (2 : Int32))]))
              refine own_st (fun t k => XS.icmpYes X72.here hx rfl (pc0 := 245) (pc' := 267) rfl (hb hby at_245) rfl (by decide) (by decide) (by decide) k) ?_
              show own_Fin p e below _ (T72.setTop (mkF m 267 #[.val (.int p0), .val (.int p1), .val (.int p2), .val (.long p3), .second, .val (.long p4), .second, .val (.int p5), .val (.int (p0 &&& (3 : Int32))), .val (.int kb), .val (.int fa), .val (.int fb), .val (.int sb), .val (.long tb), .second, .val (.ref b6), .val (.ref b15), .val (.int (2 : Int32)), .val .null, .val (.int (0 : Int32)), .val (.int (0 : Int32)), .val (.int (1 : Int32)), .val (.int (1 : Int32))] []))
              refine own_st (fun t k => XS.iload X72.here hx rfl (hb hby at_267) rfl k) ?_
              show own_Fin p e below _ (T72.setTop (mkF m 269 #[.val (.int p0), .val (.int p1), .val (.int p2), .val (.long p3), .second, .val (.long p4), .second, .val (.int p5), .val (.int (p0 &&& (3 : Int32))), .val (.int kb), .val (.int fa), .val (.int fb), .val (.int sb), .val (.long tb), .second, .val (.ref b6), .val (.ref b15), .val (.int (2 : Int32)), .val .null, .val (.int (0 : Int32)), .val (.int (0 : Int32)), .val (.int (1 : Int32)), .val (.int (1 : Int32))] [(.int (0 : Int32))]))
              refine own_st (fun t k => XS.iload X72.here hx rfl (hb hby at_269) rfl k) ?_
              show own_Fin p e below _ (T72.setTop (mkF m 271 #[.val (.int p0), .val (.int p1), .val (.int p2), .val (.long p3), .second, .val (.long p4), .second, .val (.int p5), .val (.int (p0 &&& (3 : Int32))), .val (.int kb), .val (.int fa), .val (.int fb), .val (.int sb), .val (.long tb), .second, .val (.ref b6), .val (.ref b15), .val (.int (2 : Int32)), .val .null, .val (.int (0 : Int32)), .val (.int (0 : Int32)), .val (.int (1 : Int32)), .val (.int (1 : Int32))] [(.int (0 : Int32)), (.int (0 : Int32))]))
              refine own_st (fun t k => XS.icmpNo X72.here hx rfl (hb hby at_271) rfl (by decide) k) ?_
              show own_Fin p e below _ (T72.setTop (mkF m 274 #[.val (.int p0), .val (.int p1), .val (.int p2), .val (.long p3), .second, .val (.long p4), .second, .val (.int p5), .val (.int (p0 &&& (3 : Int32))), .val (.int kb), .val (.int fa), .val (.int fb), .val (.int sb), .val (.long tb), .second, .val (.ref b6), .val (.ref b15), .val (.int (2 : Int32)), .val .null, .val (.int (0 : Int32)), .val (.int (0 : Int32)), .val (.int (1 : Int32)), .val (.int (1 : Int32))] []))
              refine own_st (fun t k => XS.iload X72.here hx rfl (hb hby at_274) rfl k) ?_
              show own_Fin p e below _ (T72.setTop (mkF m 276 #[.val (.int p0), .val (.int p1), .val (.int p2), .val (.long p3), .second, .val (.long p4), .second, .val (.int p5), .val (.int (p0 &&& (3 : Int32))), .val (.int kb), .val (.int fa), .val (.int fb), .val (.int sb), .val (.long tb), .second, .val (.ref b6), .val (.ref b15), .val (.int (2 : Int32)), .val .null, .val (.int (0 : Int32)), .val (.int (0 : Int32)), .val (.int (1 : Int32)), .val (.int (1 : Int32))] [(.int (1 : Int32))]))
              refine own_st (fun t k => XS.ifNo X72.here hx rfl (hb hby at_276) rfl (by decide) k) ?_
              show own_Fin p e below _ (T72.setTop (mkF m 279 #[.val (.int p0), .val (.int p1), .val (.int p2), .val (.long p3), .second, .val (.long p4), .second, .val (.int p5), .val (.int (p0 &&& (3 : Int32))), .val (.int kb), .val (.int fa), .val (.int fb), .val (.int sb), .val (.long tb), .second, .val (.ref b6), .val (.ref b15), .val (.int (2 : Int32)), .val .null, .val (.int (0 : Int32)), .val (.int (0 : Int32)), .val (.int (1 : Int32)), .val (.int (1 : Int32))] []))
              refine own_st (fun t k => XS.iload X72.here hx rfl (hb hby at_279) rfl k) ?_
              show own_Fin p e below _ (T72.setTop (mkF m 281 #[.val (.int p0), .val (.int p1), .val (.int p2), .val (.long p3), .second, .val (.long p4), .second, .val (.int p5), .val (.int (p0 &&& (3 : Int32))), .val (.int kb), .val (.int fa), .val (.int fb), .val (.int sb), .val (.long tb), .second, .val (.ref b6), .val (.ref b15), .val (.int (2 : Int32)), .val .null, .val (.int (0 : Int32)), .val (.int (0 : Int32)), .val (.int (1 : Int32)), .val (.int (1 : Int32))] [(.int (1 : Int32))]))
              refine own_st (fun t k => XS.ifNo X72.here hx rfl (hb hby at_281) rfl (by decide) k) ?_
              show own_Fin p e below _ (T72.setTop (mkF m 284 #[.val (.int p0), .val (.int p1), .val (.int p2), .val (.long p3), .second, .val (.long p4), .second, .val (.int p5), .val (.int (p0 &&& (3 : Int32))), .val (.int kb), .val (.int fa), .val (.int fb), .val (.int sb), .val (.long tb), .second, .val (.ref b6), .val (.ref b15), .val (.int (2 : Int32)), .val .null, .val (.int (0 : Int32)), .val (.int (0 : Int32)), .val (.int (1 : Int32)), .val (.int (1 : Int32))] []))
              refine own_st (fun t k => XS.iconst X72.here hx rfl (hb hby at_284) k) ?_
              show own_Fin p e below _ (T72.setTop (mkF m 285 #[.val (.int p0), .val (.int p1), .val (.int p2), .val (.long p3), .second, .val (.long p4), .second, .val (.int p5), .val (.int (p0 &&& (3 : Int32))), .val (.int kb), .val (.int fa), .val (.int fb), .val (.int sb), .val (.long tb), .second, .val (.ref b6), .val (.ref b15), .val (.int (2 : Int32)), .val .null, .val (.int (0 : Int32)), .val (.int (0 : Int32)), .val (.int (1 : Int32)), .val (.int (1 : Int32))] [(.int (1 : Int32))]))
              refine own_st (fun t k => XS.goto X72.here hx rfl (pc0 := 285) (pc' := 289) rfl (hb hby at_285) (by decide) (by decide) k) ?_
              show own_Fin p e below _ (T72.setTop (mkF m 289 #[.val (.int p0), .val (.int p1), .val (.int p2), .val (.long p3), .second, .val (.long p4), .second, .val (.int p5), .val (.int (p0 &&& (3 : Int32))), .val (.int kb), .val (.int fa), .val (.int fb), .val (.int sb), .val (.long tb), .second, .val (.ref b6), .val (.ref b15), .val (.int (2 : Int32)), .val .null, .val (.int (0 : Int32)), .val (.int (0 : Int32)), .val (.int (1 : Int32)), .val (.int (1 : Int32))] [(.int (1 : Int32))]))
              obtain ⟨fs, hr, hrun, hended, hW, hsame⟩ := X72.leave (v := some (.int (1 : Int32))) (fun h => by rw [Bd.returns] at h; cases h)
              exact ⟨_, _, retN X72 hx (t := .boolean) Bd.returns (by simp) (hb hby at_289) hr, hrun, hended, _, _, rfl, ⟨rfl, N72⟩, ⟨_, rfl⟩, hW, hsame.mono (by decide) (by decide)⟩
            ·
              rw [qL142]
              show own_Fin p e below _ (T22.setTop (mkF m 142 #[.val (.int p0), .val (.int p1), .val (.int p2), .val (.long p3), .second, .val (.long p4), .second, .val (.int p5), .val (.int (p0 &&& (3 : Int32))), .val (.int kb), .val (.int fa), .val (.int fb), .val (.int sb), .val (.long tb), .second, .val (.ref b6), .val (.ref b15), .val (.int (3 : Int32)), .unset, .unset, .unset, .unset, .unset] []))
              refine own_st (fun t k => XS.iload X22.here hx rfl (hb hby at_142) rfl k) ?_
              show own_Fin p e below _ (T22.setTop (mkF m 144 #[.val (.int p0), .val (.int p1), .val (.int p2), .val (.long p3), .second, .val (.long p4), .second, .val (.int p5), .val (.int (p0 &&& (3 : Int32))), .val (.int kb), .val (.int fa), .val (.int fb), .val (.int sb), .val (.long tb), .second, .val (.ref b6), .val (.ref b15), .val (.int (3 : Int32)), .unset, .unset, .unset, .unset, .unset] [(.int (3 : Int32))]))
              refine own_st (fun t k => XS.iconst X22.here hx rfl (hb hby at_144) k) ?_
              show own_Fin p e below _ (T22.setTop (mkF m 145 #[.val (.int p0), .val (.int p1), .val (.int p2), .val (.long p3), .second, .val (.long p4), .second, .val (.int p5), .val (.int (p0 &&& (3 : Int32))), .val (.int kb), .val (.int fa), .val (.int fb), .val (.int sb), .val (.long tb), .second, .val (.ref b6), .val (.ref b15), .val (.int (3 : Int32)), .unset, .unset, .unset, .unset, .unset] [(.int (2 : Int32)), (.int (3 : Int32))]))
              refine own_st (fun t k => XS.icmpYes X22.here hx rfl (pc0 := 145) (pc' := 154) rfl (hb hby at_145) rfl (by decide) (by decide) (by decide) k) ?_
              show own_Fin p e below _ (T22.setTop (mkF m 154 #[.val (.int p0), .val (.int p1), .val (.int p2), .val (.long p3), .second, .val (.long p4), .second, .val (.int p5), .val (.int (p0 &&& (3 : Int32))), .val (.int kb), .val (.int fa), .val (.int fb), .val (.int sb), .val (.long tb), .second, .val (.ref b6), .val (.ref b15), .val (.int (3 : Int32)), .unset, .unset, .unset, .unset, .unset] []))
              refine own_st (fun t k => XS.iload X22.here hx rfl (hb hby at_154) rfl k) ?_
              show own_Fin p e below _ (T22.setTop (mkF m 156 #[.val (.int p0), .val (.int p1), .val (.int p2), .val (.long p3), .second, .val (.long p4), .second, .val (.int p5), .val (.int (p0 &&& (3 : Int32))), .val (.int kb), .val (.int fa), .val (.int fb), .val (.int sb), .val (.long tb), .second, .val (.ref b6), .val (.ref b15), .val (.int (3 : Int32)), .unset, .unset, .unset, .unset, .unset] [(.int (3 : Int32))]))
              refine own_st (fun t k => XS.iconst X22.here hx rfl (hb hby at_156) k) ?_
              show own_Fin p e below _ (T22.setTop (mkF m 157 #[.val (.int p0), .val (.int p1), .val (.int p2), .val (.long p3), .second, .val (.long p4), .second, .val (.int p5), .val (.int (p0 &&& (3 : Int32))), .val (.int kb), .val (.int fa), .val (.int fb), .val (.int sb), .val (.long tb), .second, .val (.ref b6), .val (.ref b15), .val (.int (3 : Int32)), .unset, .unset, .unset, .unset, .unset] [(.int (3 : Int32)), (.int (3 : Int32))]))
              refine own_st (fun t k => XS.icmpNo X22.here hx rfl (hb hby at_157) rfl (by decide) k) ?_
              show own_Fin p e below _ (T22.setTop (mkF m 160 #[.val (.int p0), .val (.int p1), .val (.int p2), .val (.long p3), .second, .val (.long p4), .second, .val (.int p5), .val (.int (p0 &&& (3 : Int32))), .val (.int kb), .val (.int fa), .val (.int fb), .val (.int sb), .val (.long tb), .second, .val (.ref b6), .val (.ref b15), .val (.int (3 : Int32)), .unset, .unset, .unset, .unset, .unset] []))
              refine own_st (fun t k => XS.iloadN X22.here hx rfl (hb hby at_160) rfl k) ?_
              show own_Fin p e below _ (T22.setTop (mkF m 161 #[.val (.int p0), .val (.int p1), .val (.int p2), .val (.long p3), .second, .val (.long p4), .second, .val (.int p5), .val (.int (p0 &&& (3 : Int32))), .val (.int kb), .val (.int fa), .val (.int fb), .val (.int sb), .val (.long tb), .second, .val (.ref b6), .val (.ref b15), .val (.int (3 : Int32)), .unset, .unset, .unset, .unset, .unset] [(.int p0)]))
              refine own_st (fun t k => XS.bipush X22.here hx rfl (hb hby at_161) k) ?_
              show own_Fin p e below _ (T22.setTop (mkF m 163 #[.val (.int p0), .val (.int p1), .val (.int p2), .val (.long p3), .second, .val (.long p4), .second, .val (.int p5), .val (.int (p0 &&& (3 : Int32))), .val (.int kb), .val (.int fa), .val (.int fb), .val (.int sb), .val (.long tb), .second, .val (.ref b6), .val (.ref b15), .val (.int (3 : Int32)), .unset, .unset, .unset, .unset, .unset] [(.int (8 : Int32)), (.int p0)]))
              refine own_st (fun t k => XS.iushr X22.here hx rfl (hb hby at_163) rfl k) ?_
              show own_Fin p e below _ (T22.setTop (mkF m 164 #[.val (.int p0), .val (.int p1), .val (.int p2), .val (.long p3), .second, .val (.long p4), .second, .val (.int p5), .val (.int (p0 &&& (3 : Int32))), .val (.int kb), .val (.int fa), .val (.int fb), .val (.int sb), .val (.long tb), .second, .val (.ref b6), .val (.ref b15), .val (.int (3 : Int32)), .unset, .unset, .unset, .unset, .unset] [(.int ((p0.toUInt32 >>> ((8 : Int32) &&& 31).toUInt32).toInt32))]))
              refine own_st (fun t k => XS.sipush X22.here hx rfl (hb hby at_164) k) ?_
              show own_Fin p e below _ (T22.setTop (mkF m 167 #[.val (.int p0), .val (.int p1), .val (.int p2), .val (.long p3), .second, .val (.long p4), .second, .val (.int p5), .val (.int (p0 &&& (3 : Int32))), .val (.int kb), .val (.int fa), .val (.int fb), .val (.int sb), .val (.long tb), .second, .val (.ref b6), .val (.ref b15), .val (.int (3 : Int32)), .unset, .unset, .unset, .unset, .unset] [(.int (255 : Int32)), (.int ((p0.toUInt32 >>> ((8 : Int32) &&& 31).toUInt32).toInt32))]))
              refine own_st (fun t k => XS.iand X22.here hx rfl (hb hby at_167) rfl k) ?_
              show own_Fin p e below _ (T22.setTop (mkF m 168 #[.val (.int p0), .val (.int p1), .val (.int p2), .val (.long p3), .second, .val (.long p4), .second, .val (.int p5), .val (.int (p0 &&& (3 : Int32))), .val (.int kb), .val (.int fa), .val (.int fb), .val (.int sb), .val (.long tb), .second, .val (.ref b6), .val (.ref b15), .val (.int (3 : Int32)), .unset, .unset, .unset, .unset, .unset] [(.int (((p0.toUInt32 >>> ((8 : Int32) &&& 31).toUInt32).toInt32) &&& (255 : Int32)))]))
              refine own_st (fun t k => XS.i2c X22.here hx rfl (hb hby at_168) rfl k) ?_
              show own_Fin p e below _ (T22.setTop (mkF m 169 #[.val (.int p0), .val (.int p1), .val (.int p2), .val (.long p3), .second, .val (.long p4), .second, .val (.int p5), .val (.int (p0 &&& (3 : Int32))), .val (.int kb), .val (.int fa), .val (.int fb), .val (.int sb), .val (.long tb), .second, .val (.ref b6), .val (.ref b15), .val (.int (3 : Int32)), .unset, .unset, .unset, .unset, .unset] [(.int ((((p0.toUInt32 >>> ((8 : Int32) &&& 31).toUInt32).toInt32) &&& (255 : Int32)).toUInt32.toUInt16.toUInt32.toInt32))]))
              have F78 : Sta Z T22.heap "java/lang/String" "COMPACT_STRINGS" "Z" (.int cs) := (own_staKeep ((own_staKeep (S_CS.ext E6) K13q (allS (own_plain A6) all0)).ext E15) K22q (allS (own_plain A15) all0))
              obtain ⟨_, _, ⟨T77, L77, k77, n77⟩, -, X77, ⟨Lc77, hQ77, l77, y77, z77⟩, st77⟩ := Jvm.LawKit.callS X22 hx (y := (⟨"java/lang/String", "valueOf", "(C)Ljava/lang/String;"⟩ : MethodName)) hown (mvT hZ (hw _ (List.mem_of_getElem? (i := 37) rfl))) (mvT hZ (hw _ (List.mem_of_getElem? (i := 38) rfl))) (mvT hZ (hw _ (List.mem_of_getElem? (i := 39) rfl))) (mvT hZ (hw _ (List.mem_of_getElem? (i := 40) rfl))) (by decide) (backOf (W := 0) (rm5_14 l Z a0 hw [] ((((p0.toUInt32 >>> ((8 : Int32) &&& 31).toUInt32).toInt32) &&& (255 : Int32)).toUInt32.toUInt16.toUInt32.toInt32) cs T22.heap n0 Z23 F78 D_CS (own_chr _)) hZ (hw _ (List.mem_of_getElem? (i := 40) rfl)) (hw _ (List.mem_of_getElem? (i := 39) rfl)) (by decide) (by decide)) (g := (mkF m 169 #[.val (.int p0), .val (.int p1), .val (.int p2), .val (.long p3), .second, .val (.long p4), .second, .val (.int p5), .val (.int (p0 &&& (3 : Int32))), .val (.int kb), .val (.int fa), .val (.int fb), .val (.int sb), .val (.long tb), .second, .val (.ref b6), .val (.ref b15), .val (.int (3 : Int32)), .unset, .unset, .unset, .unset, .unset] [(.int ((((p0.toUInt32 >>> ((8 : Int32) &&& 31).toUInt32).toInt32) &&& (255 : Int32)).toUInt32.toUInt16.toUInt32.toInt32))])) rfl (by rw [hml]; rfl) (argsL := [(.int ((((p0.toUInt32 >>> ((8 : Int32) &&& 31).toUInt32).toInt32) &&& (255 : Int32)).toUInt32.toUInt16.toUInt32.toInt32))]) (rest := []) (lenOf pd__C_Ljava_lang_String_ rfl) rfl (by show 2 * 0 + _ ≤ _; exact Nat.le_of_eq rfl) (hb hby at_169) (fun _ _ => ⟨rfl, rfl, (by decide : 2 + 2 ≤ _), (by decide : 8 + 5 ≤ _)⟩)
              dsimp only [Pt.U, Pt.locs, Pt.cells, Pt.slots] at X77 l77 y77 z77 st77 hQ77
              subst l77 y77 z77
              obtain ⟨b77_0, b77_1, rfl, N77q, K77q, le_b77_0, le_b77_1, G77_0, G77_1, G77_2, G77_3⟩ := hQ77
              have sz_b77_0 : h0.size ≤ b77_0 := Nat.le_trans KC23.1 le_b77_0
              have g_b77_0 : n0 ≤ b77_0 := Nat.le_trans Z0 sz_b77_0
              have sz_b77_1 : h0.size ≤ b77_1 := Nat.le_trans KC23.1 le_b77_1
              have g_b77_1 : n0 ≤ b77_1 := Nat.le_trans Z0 sz_b77_1
              have Z79 : n0 ≤ Array.size T77.heap := Nat.le_trans Z23 K77q.1
              have KC79 : Keep h0 T77.heap [] := KC23.trans K77q all0
              have N77 := Fr.app N22 N77q
              refine own_st st77 ?_
              show own_Fin p e below _ (T77.setTop (mkF m 172 #[.val (.int p0), .val (.int p1), .val (.int p2), .val (.long p3), .second, .val (.long p4), .second, .val (.int p5), .val (.int (p0 &&& (3 : Int32))), .val (.int kb), .val (.int fa), .val (.int fb), .val (.int sb), .val (.long tb), .second, .val (.ref b6), .val (.ref b15), .val (.int (3 : Int32)), .unset, .unset, .unset, .unset, .unset] [(.ref b77_0)]))
              refine own_st (fun t k => XS.astore X77.here hx rfl (hb hby at_172) rfl rfl (l' := #[.val (.int p0), .val (.int p1), .val (.int p2), .val (.long p3), .second, .val (.long p4), .second, .val (.int p5), .val (.int (p0 &&& (3 : Int32))), .val (.int kb), .val (.int fa), .val (.int fb), .val (.int sb), .val (.long tb), .second, .val (.ref b6), .val (.ref b15), .val (.int (3 : Int32)), .val (.ref b77_0), .unset, .unset, .unset, .unset]) rfl k) ?_
              show own_Fin p e below _ (T77.setTop (mkF m 174 #[.val (.int p0), .val (.int p1), .val (.int p2), .val (.long p3), .second, .val (.long p4), .second, .val (.int p5), .val (.int (p0 &&& (3 : Int32))), .val (.int kb), .val (.int fa), .val (.int fb), .val (.int sb), .val (.long tb), .second, .val (.ref b6), .val (.ref b15), .val (.int (3 : Int32)), .val (.ref b77_0), .unset, .unset, .unset, .unset] []))
              refine own_st (fun t k => XS.goto X77.here hx rfl (pc0 := 174) (pc' := 181) rfl (hb hby at_174) (by decide) (by decide) k) ?_
              show own_Fin p e below _ (T77.setTop (mkF m 181 #[.val (.int p0), .val (.int p1), .val (.int p2), .val (.long p3), .second, .val (.long p4), .second, .val (.int p5), .val (.int (p0 &&& (3 : Int32))), .val (.int kb), .val (.int fa), .val (.int fb), .val (.int sb), .val (.long tb), .second, .val (.ref b6), .val (.ref b15), .val (.int (3 : Int32)), .val (.ref b77_0), .unset, .unset, .unset, .unset] []))
              refine own_st (fun t k => XS.iload X77.here hx rfl (hb hby at_181) rfl k) ?_
              show own_Fin p e below _ (T77.setTop (mkF m 183 #[.val (.int p0), .val (.int p1), .val (.int p2), .val (.long p3), .second, .val (.long p4), .second, .val (.int p5), .val (.int (p0 &&& (3 : Int32))), .val (.int kb), .val (.int fa), .val (.int fb), .val (.int sb), .val (.long tb), .second, .val (.ref b6), .val (.ref b15), .val (.int (3 : Int32)), .val (.ref b77_0), .unset, .unset, .unset, .unset] [(.int (3 : Int32))]))
              refine own_st (fun t k => XS.iconst X77.here hx rfl (hb hby at_183) k) ?_
              show own_Fin p e below _ (T77.setTop (mkF m 184 #[.val (.int p0), .val (.int p1), .val (.int p2), .val (.long p3), .second, .val (.long p4), .second, .val (.int p5), .val (.int (p0 &&& (3 : Int32))), .val (.int kb), .val (.int fa), .val (.int fb), .val (.int sb), .val (.long tb), .second, .val (.ref b6), .val (.ref b15), .val (.int (3 : Int32)), .val (.ref b77_0), .unset, .unset, .unset, .unset] [(.int (2 : Int32)), (.int (3 : Int32))]))
              refine own_st (fun t k => XS.icmpYes X77.here hx rfl (pc0 := 184) (pc' := 218) rfl (hb hby at_184) rfl (by decide) (by decide) (by decide) k) ?_
              show own_Fin p e below _ (T77.setTop (mkF m 218 #[.val (.int p0), .val (.int p1), .val (.int p2), .val (.long p3), .second, .val (.long p4), .second, .val (.int p5), .val (.int (p0 &&& (3 : Int32))), .val (.int kb), .val (.int fa), .val (.int fb), .val (.int sb), .val (.long tb), .second, .val (.ref b6), .val (.ref b15), .val (.int (3 : Int32)), .val (.ref b77_0), .unset, .unset, .unset, .unset] []))
              refine own_st (fun t k => XS.iconst X77.here hx rfl (hb hby at_218) k) ?_
              show own_Fin p e below _ (T77.setTop (mkF m 219 #[.val (.int p0), .val (.int p1), .val (.int p2), .val (.long p3), .second, .val (.long p4), .second, .val (.int p5), .val (.int (p0 &&& (3 : Int32))), .val (.int kb), .val (.int fa), .val (.int fb), .val (.int sb), .val (.long tb), .second, .val (.ref b6), .val (.ref b15), .val (.int (3 : Int32)), .val (.ref b77_0), .unset, .unset, .unset, .unset] [(.int (0 : Int32))]))
              refine own_st (fun t k => XS.istore X77.here hx rfl (hb hby at_219) rfl (l' := #[.val (.int p0), .val (.int p1), .val (.int p2), .val (.long p3), .second, .val (.long p4), .second, .val (.int p5), .val (.int (p0 &&& (3 : Int32))), .val (.int kb), .val (.int fa), .val (.int fb), .val (.int sb), .val (.long tb), .second, .val (.ref b6), .val (.ref b15), .val (.int (3 : Int32)), .val (.ref b77_0), .val (.int (0 : Int32)), .unset, .unset, .unset]) rfl k) ?_
              show own_Fin p e below _ (T77.setTop (mkF m 221 #[.val (.int p0), .val (.int p1), .val (.int p2), .val (.long p3), .second, .val (.long p4), .second, .val (.int p5), .val (.int (p0 &&& (3 : Int32))), .val (.int kb), .val (.int fa), .val (.int fb), .val (.int sb), .val (.long tb), .second, .val (.ref b6), .val (.ref b15), .val (.int (3 : Int32)), .val (.ref b77_0), .val (.int (0 : Int32)), .unset, .unset, .unset] []))
              refine own_st (fun t k => XS.aload X77.here hx rfl (hb hby at_221) rfl rfl k) ?_
              show own_Fin p e below _ (T77.setTop (mkF m 223 #[.val (.int p0), .val (.int p1), .val (.int p2), .val (.long p3), .second, .val (.long p4), .second, .val (.int p5), .val (.int (p0 &&& (3 : Int32))), .val (.int kb), .val (.int fa), .val (.int fb), .val (.int sb), .val (.long tb), .second, .val (.ref b6), .val (.ref b15), .val (.int (3 : Int32)), .val (.ref b77_0), .val (.int (0 : Int32)), .unset, .unset, .unset] [(.ref b6)]))
              refine own_st (fun t k => XS.aload X77.here hx rfl (hb hby at_223) rfl rfl k) ?_
              show own_Fin p e below _ (T77.setTop (mkF m 225 #[.val (.int p0), .val (.int p1), .val (.int p2), .val (.long p3), .second, .val (.long p4), .second, .val (.int p5), .val (.int (p0 &&& (3 : Int32))), .val (.int kb), .val (.int fa), .val (.int fb), .val (.int sb), .val (.long tb), .second, .val (.ref b6), .val (.ref b15), .val (.int (3 : Int32)), .val (.ref b77_0), .val (.int (0 : Int32)), .unset, .unset, .unset] [(.ref b77_0), (.ref b6)]))
              have F81 : Exa Z T77.heap b6 "com/example/deioces/deioces/Message" := ((((A6.keep K13q).ext E15).keep K22q).keep K77q)
              obtain ⟨cq80, kq80, q80a, q80b, q80c⟩ := isOf hZ rfl F81
              obtain ⟨_, _, ⟨T80, L80, k80, n80⟩, -, X80, ⟨Lc80, hQ80, l80, y80, z80⟩, st80⟩ := X77.virtualBack hx (y := (⟨"com/example/deioces/deioces/Message", "equals", "(Ljava/lang/Object;)Z"⟩ : MethodName)) (z := (⟨"com/example/deioces/deioces/Message", "equals", "(Ljava/lang/Object;)Z"⟩ : MethodName)) hown (mvT hZ (hw _ (List.mem_of_getElem? (i := 24) rfl))) (mvT hZ (hw _ (List.mem_of_getElem? (i := 25) rfl))) (notFace_of_selects (args := #[]) (mvT hZ (hw _ (List.mem_of_getElem? (i := 27) rfl)))) (mvT hZ (hw _ (List.mem_of_getElem? (i := 27) rfl))) (mvT hZ (hw _ (List.mem_of_getElem? (i := 26) rfl))) (by decide) (backOf (W := 0) (rm4_15 l Z a0 hw [] b6 b77_0 T77.heap n0 Z79 G77_0) hZ (hw _ (List.mem_of_getElem? (i := 28) rfl)) (hw _ (List.mem_of_getElem? (i := 2) rfl)) (by decide) (by decide)) q80a q80c (g := (mkF m 225 #[.val (.int p0), .val (.int p1), .val (.int p2), .val (.long p3), .second, .val (.long p4), .second, .val (.int p5), .val (.int (p0 &&& (3 : Int32))), .val (.int kb), .val (.int fa), .val (.int fb), .val (.int sb), .val (.long tb), .second, .val (.ref b6), .val (.ref b15), .val (.int (3 : Int32)), .val (.ref b77_0), .val (.int (0 : Int32)), .unset, .unset, .unset] [(.ref b77_0), (.ref b6)])) rfl (by rw [hml]; rfl) (Steps.refl _) (argsL := [(.ref b77_0)]) (rest := []) (lenOf pd__Ljava_lang_Object__Z rfl) rfl (by show 2 * 0 + _ ≤ _; exact Nat.le_of_eq rfl) (hb hby at_225) (fun _ _ => ⟨rfl, rfl, (by decide : 4 + 0 ≤ _), (by decide : 13 + 0 ≤ _)⟩)
              dsimp only [Pt.U, Pt.locs, Pt.cells, Pt.slots] at X80 l80 y80 z80 st80 hQ80
              subst l80 y80 z80
              obtain ⟨rfl, N80q, e80⟩ := hQ80
              have N80 := Fr.app N77 N80q
              refine own_tr st80 ?_
              show own_Fin p e below _ (T80.setTop (mkF m 228 #[.val (.int p0), .val (.int p1), .val (.int p2), .val (.long p3), .second, .val (.long p4), .second, .val (.int p5), .val (.int (p0 &&& (3 : Int32))), .val (.int kb), .val (.int fa), .val (.int fb), .val (.int sb), .val (.long tb), .second, .val (.ref b6), .val (.ref b15), .val (.int (3 : Int32)), .val (.ref b77_0), .val (.int (0 : Int32)), .unset, .unset, .unset] [(.int (0 : Int32))]))
              refine own_st (fun t k => XS.istore X80.here hx rfl (hb hby at_228) rfl (l' := #[.val (.int p0), .val (.int p1), .val (.int p2), .val (.long p3), .second, .val (.long p4), .second, .val (.int p5), .val (.int (p0 &&& (3 : Int32))), .val (.int kb), .val (.int fa), .val (.int fb), .val (.int sb), .val (.long tb), .second, .val (.ref b6), .val (.ref b15), .val (.int (3 : Int32)), .val (.ref b77_0), .val (.int (0 : Int32)), .val (.int (0 : Int32)), .unset, .unset]) rfl k) ?_
              show own_Fin p e below _ (T80.setTop (mkF m 230 #[.val (.int p0), .val (.int p1), .val (.int p2), .val (.long p3), .second, .val (.long p4), .second, .val (.int p5), .val (.int (p0 &&& (3 : Int32))), .val (.int kb), .val (.int fa), .val (.int fb), .val (.int sb), .val (.long tb), .second, .val (.ref b6), .val (.ref b15), .val (.int (3 : Int32)), .val (.ref b77_0), .val (.int (0 : Int32)), .val (.int (0 : Int32)), .unset, .unset] []))
              refine own_st (fun t k => XS.aload X80.here hx rfl (hb hby at_230) rfl rfl k) ?_
              show own_Fin p e below _ (T80.setTop (mkF m 232 #[.val (.int p0), .val (.int p1), .val (.int p2), .val (.long p3), .second, .val (.long p4), .second, .val (.int p5), .val (.int (p0 &&& (3 : Int32))), .val (.int kb), .val (.int fa), .val (.int fb), .val (.int sb), .val (.long tb), .second, .val (.ref b6), .val (.ref b15), .val (.int (3 : Int32)), .val (.ref b77_0), .val (.int (0 : Int32)), .val (.int (0 : Int32)), .unset, .unset] [(.ref b6)]))
              refine own_st (fun t k => XS.aload X80.here hx rfl (hb hby at_232) rfl rfl k) ?_
              show own_Fin p e below _ (T80.setTop (mkF m 234 #[.val (.int p0), .val (.int p1), .val (.int p2), .val (.long p3), .second, .val (.long p4), .second, .val (.int p5), .val (.int (p0 &&& (3 : Int32))), .val (.int kb), .val (.int fa), .val (.int fb), .val (.int sb), .val (.long tb), .second, .val (.ref b6), .val (.ref b15), .val (.int (3 : Int32)), .val (.ref b77_0), .val (.int (0 : Int32)), .val (.int (0 : Int32)), .unset, .unset] [(.ref b6), (.ref b6)]))
              have F83 : Fld Z T77.heap b6 "com/example/deioces/deioces/Message" "kind" "Lcom/example/deioces/deioces/Message$Kind;" (.ref (own_kd (p0 &&& (3 : Int32)) w_ELECTION w_REPLY w_RELEASE w_HEARTBEAT)) := (((G13_0.ext E15).keep K22q (ninS (Nat.ne_of_lt (Nat.lt_of_lt_of_le (A6.keep K13q).lt le_b15)) nin0)).keep K77q nin0)
              have F84 : Fld Z T77.heap b6 "com/example/deioces/deioces/Message" "sender" "I" (.int p1) := (((G13_1.ext E15).keep K22q (ninS (Nat.ne_of_lt (Nat.lt_of_lt_of_le (A6.keep K13q).lt le_b15)) nin0)).keep K77q nin0)
              have F85 : Fld Z T77.heap b6 "com/example/deioces/deioces/Message" "stamp" "J" (.long p3) := (((G13_2.ext E15).keep K22q (ninS (Nat.ne_of_lt (Nat.lt_of_lt_of_le (A6.keep K13q).lt le_b15)) nin0)).keep K77q nin0)
              have F86 : Fld Z T77.heap b6 "com/example/deioces/deioces/Message" "supportive" "Z" (.int fa) := (((G13_3.ext E15).keep K22q (ninS (Nat.ne_of_lt (Nat.lt_of_lt_of_le (A6.keep K13q).lt le_b15)) nin0)).keep K77q nin0)
              obtain ⟨cq82, kq82, q82a, q82b, q82c⟩ := isOf hZ e80 F81
              obtain ⟨_, _, ⟨T82, L82, k82, n82⟩, -, X82, ⟨Lc82, hQ82, l82, y82, z82⟩, st82⟩ := X80.virtualBack hx (y := (⟨"com/example/deioces/deioces/Message", "equals", "(Ljava/lang/Object;)Z"⟩ : MethodName)) (z := (⟨"com/example/deioces/deioces/Message", "equals", "(Ljava/lang/Object;)Z"⟩ : MethodName)) hown (mvT hZ (hw _ (List.mem_of_getElem? (i := 24) rfl))) (mvT hZ (hw _ (List.mem_of_getElem? (i := 25) rfl))) (notFace_of_selects (args := #[]) (mvT hZ (hw _ (List.mem_of_getElem? (i := 27) rfl)))) (mvT hZ (hw _ (List.mem_of_getElem? (i := 27) rfl))) (mvT hZ (hw _ (List.mem_of_getElem? (i := 26) rfl))) (by decide) (backOf (W := 0) (rm4_16 l Z a0 hw [] b6 (own_kd (p0 &&& (3 : Int32)) w_ELECTION w_REPLY w_RELEASE w_HEARTBEAT) p1 p3 fa T77.heap n0 Z79 F81 F83 F84 F85 hfa F86) hZ (hw _ (List.mem_of_getElem? (i := 28) rfl)) (hw _ (List.mem_of_getElem? (i := 2) rfl)) (by decide) (by decide)) q82a q82c (g := (mkF m 234 #[.val (.int p0), .val (.int p1), .val (.int p2), .val (.long p3), .second, .val (.long p4), .second, .val (.int p5), .val (.int (p0 &&& (3 : Int32))), .val (.int kb), .val (.int fa), .val (.int fb), .val (.int sb), .val (.long tb), .second, .val (.ref b6), .val (.ref b15), .val (.int (3 : Int32)), .val (.ref b77_0), .val (.int (0 : Int32)), .val (.int (0 : Int32)), .unset, .unset] [(.ref b6), (.ref b6)])) rfl (by rw [hml]; rfl) (Steps.refl _) (argsL := [(.ref b6)]) (rest := []) (lenOf pd__Ljava_lang_Object__Z rfl) rfl (by show 2 * 0 + _ ≤ _; exact Nat.le_of_eq rfl) (hb hby at_234) (fun _ _ => ⟨rfl, e80, (by decide : 4 + 0 ≤ _), (by decide : 13 + 0 ≤ _)⟩)
              dsimp only [Pt.U, Pt.locs, Pt.cells, Pt.slots] at X82 l82 y82 z82 st82 hQ82
              subst l82 y82 z82
              obtain ⟨rfl, N82q, e82⟩ := hQ82
              have N82 := Fr.app N80 N82q
              refine own_tr st82 ?_
              show own_Fin p e below _ (T82.setTop (mkF m 237 #[.val (.int p0), .val (.int p1), .val (.int p2), .val (.long p3), .second, .val (.long p4), .second, .val (.int p5), .val (.int (p0 &&& (3 : Int32))), .val (.int kb), .val (.int fa), .val (.int fb), .val (.int sb), .val (.long tb), .second, .val (.ref b6), .val (.ref b15), .val (.int (3 : Int32)), .val (.ref b77_0), .val (.int (0 : Int32)), .val (.int (0 : Int32)), .unset, .unset] [(.int (1 : Int32))]))
              refine own_st (fun t k => XS.istore X82.here hx rfl (hb hby at_237) rfl (l' := #[.val (.int p0), .val (.int p1), .val (.int p2), .val (.long p3), .second, .val (.long p4), .second, .val (.int p5), .val (.int (p0 &&& (3 : Int32))), .val (.int kb), .val (.int fa), .val (.int fb), .val (.int sb), .val (.long tb), .second, .val (.ref b6), .val (.ref b15), .val (.int (3 : Int32)), .val (.ref b77_0), .val (.int (0 : Int32)), .val (.int (0 : Int32)), .val (.int (1 : Int32)), .unset]) rfl k) ?_
              show own_Fin p e below _ (T82.setTop (mkF m 239 #[.val (.int p0), .val (.int p1), .val (.int p2), .val (.long p3), .second, .val (.long p4), .second, .val (.int p5), .val (.int (p0 &&& (3 : Int32))), .val (.int kb), .val (.int fa), .val (.int fb), .val (.int sb), .val (.long tb), .second, .val (.ref b6), .val (.ref b15), .val (.int (3 : Int32)), .val (.ref b77_0), .val (.int (0 : Int32)), .val (.int (0 : Int32)), .val (.int (1 : Int32)), .unset] []))
              refine own_st (fun t k => XS.iconst X82.here hx rfl (hb hby at_239) k) ?_
              show own_Fin p e below _ (T82.setTop (mkF m 240 #[.val (.int p0), .val (.int p1), .val (.int p2), .val (.long p3), .second, .val (.long p4), .second, .val (.int p5), .val (.int (p0 &&& (3 : Int32))), .val (.int kb), .val (.int fa), .val (.int fb), .val (.int sb), .val (.long tb), .second, .val (.ref b6), .val (.ref b15), .val (.int (3 : Int32)), .val (.ref b77_0), .val (.int (0 : Int32)), .val (.int (0 : Int32)), .val (.int (1 : Int32)), .unset] [(.int (1 : Int32))]))
              refine own_st (fun t k => XS.istore X82.here hx rfl (hb hby at_240) rfl (l' := #[.val (.int p0), .val (.int p1), .val (.int p2), .val (.long p3), .second, .val (.long p4), .second, .val (.int p5), .val (.int (p0 &&& (3 : Int32))), .val (.int kb), .val (.int fa), .val (.int fb), .val (.int sb), .val (.long tb), .second, .val (.ref b6), .val (.ref b15), .val (.int (3 : Int32)), .val (.ref b77_0), .val (.int (0 : Int32)), .val (.int (0 : Int32)), .val (.int (1 : Int32)), .val (.int (1 : Int32))]) rfl k) ?_
              show own_Fin p e below _ (T82.setTop (mkF m 242 #[.val (.int p0), .val (.int p1), .val (.int p2), .val (.long p3), .second, .val (.long p4), .second, .val (.int p5), .val (.int (p0 &&& (3 : Int32))), .val (.int kb), .val (.int fa), .val (.int fb), .val (.int sb), .val (.long tb), .second, .val (.ref b6), .val (.ref b15), .val (.int (3 : Int32)), .val (.ref b77_0), .val (.int (0 : Int32)), .val (.int (0 : Int32)), .val (.int (1 : Int32)), .val (.int (1 : Int32))] []))
              refine own_st (fun t k => XS.iload X82.here hx rfl (hb hby at_242) rfl k) ?_
              show own_Fin p e below _ (T82.setTop (mkF m 244 #[.val (.int p0), .val (.int p1), .val (.int p2), .val (.long p3), .second, .val (.long p4), .second, .val (.int p5), .val (.int (p0 &&& (3 : Int32))), .val (.int kb), .val (.int fa), .val (.int fb), .val (.int sb), .val (.long tb), .second, .val (.ref b6), .val (.ref b15), .val (.int (3 : Int32)), .val (.ref b77_0), .val (.int (0 : Int32)), .val (.int (0 : Int32)), .val (.int (1 : Int32)), .val (.int (1 : Int32))] [(.int (3 : Int32))]))
              refine own_st (fun t k => XS.iconst X82.here hx rfl (hb hby at_244) k) ?_
              show own_Fin p e below _ (T82.setTop (mkF m 245 #[.val (.int p0), .val (.int p1), .val (.int p2), .val (.long p3), .second, .val (.long p4), .second, .val (.int p5), .val (.int (p0 &&& (3 : Int32))), .val (.int kb), .val (.int fa), .val (.int fb), .val (.int sb), .val (.long tb), .second, .val (.ref b6), .val (.ref b15), .val (.int (3 : Int32)), .val (.ref b77_0), .val (.int (0 : Int32)), .val (.int (0 : Int32)), .val (.int (1 : Int32)), .val (.int (1 : Int32))] [(.int (2 : Int32)), (.int (3 : Int32))]))
              refine own_st (fun t k => XS.icmpYes X82.here hx rfl (pc0 := 245) (pc' := 267) rfl (hb hby at_245) rfl (by decide) (by decide) (by decide) k) ?_
              show own_Fin p e below _ (T82.setTop (mkF m 267 #[.val (.int p0), .val (.int p1), .val (.int p2), .val (.long p3), .second, .val (.long p4), .second, .val (.int p5), .val (.int (p0 &&& (3 : Int32))), .val (.int kb), .val (.int fa), .val (.int fb), .val (.int sb), .val (.long tb), .second, .val (.ref b6), .val (.ref b15), .val (.int (3 : Int32)), .val (.ref b77_0), .val (.int (0 : Int32)), .val (.int (0 : Int32)), .val (.int (1 : Int32)), .val (.int (1 : Int32))] []))
              refine own_st (fun t k => XS.iload X82.here hx rfl (hb hby at_267) rfl k) ?_
              show own_Fin p e below _ (T82.setTop (mkF m 269 #[.val (.int p0), .val (.int p1), .val (.int p2), .val (.long p3), .second, .val (.long p4), .second, .val (.int p5), .val (.int (p0 &&& (3 : Int32))), .val (.int kb), .val (.int fa), .val (.int fb), .val (.int sb), .val (.long tb), .second, .val (.ref b6), .val (.ref b15), .val (.int (3 : Int32)), .val (.ref b77_0), .val (.int (0 : Int32)), .val (.int (0 : Int32)), .val (.int (1 : Int32)), .val (.int (1 : Int32))] [(.int (0 : Int32))]))
              refine own_st (fun t k => XS.iload X82.here hx rfl (hb hby at_269) rfl k) ?_
              show own_Fin p e below _ (T82.setTop (mkF m 271 #[.val (.int p0), .val (.int p1), .val (.int p2), .val (.long p3), .second, .val (.long p4), .second, .val (.int p5), .val (.int (p0 &&& (3 : Int32))), .val (.int kb), .val (.int fa), .val (.int fb), .val (.int sb), .val (.long tb), .second, .val (.ref b6), .val (.ref b15), .val (.int (3 : Int32)), .val (.ref b77_0), .val (.int (0 : Int32)), .val (.int (0 : Int32)), .val (.int (1 : Int32)), .val (.int (1 : Int32))] [(.int (0 : Int32)), (.int (0 : Int32))]))
              refine own_st (fun t k => XS.icmpNo X82.here hx rfl (hb hby at_271) rfl (by decide) k) ?_
              show own_Fin p e below _ (T82.setTop (mkF m 274 #[.val (.int p0), .val (.int p1), .val (.int p2), .val (.long p3), .second, .val (.long p4), .second, .val (.int p5), .val (.int (p0 &&& (3 : Int32))), .val (.int kb), .val (.int fa), .val (.int fb), .val (.int sb), .val (.long tb), .second, .val (.ref b6), .val (.ref b15), .val (.int (3 : Int32)), .val (.ref b77_0), .val (.int (0 : Int32)), .val (.int (0 : Int32)), .val (.int (1 : Int32)), .val (.int (1 : Int32))] []))
              refine own_st (fun t k => XS.iload X82.here hx rfl (hb hby at_274) rfl k) ?_
              show own_Fin p e below _ (T82.setTop (mkF m 276 #[.val (.int p0), .val (.int p1), .val (.int p2), .val (.long p3), .second, .val (.long p4), .second, .val (.int p5), .val (.int (p0 &&& (3 : Int32))), .val (.int kb), .val (.int fa), .val (.int fb), .val (.int sb), .val (.long tb), .second, .val (.ref b6), .val (.ref b15), .val (.int (3 : Int32)), .val (.ref b77_0), .val (.int (0 : Int32)), .val (.int (0 : Int32)), .val (.int (1 : Int32)), .val (.int (1 : Int32))] [(.int (1 : Int32))]))
              refine own_st (fun t k => XS.ifNo X82.here hx rfl (hb hby at_276) rfl (by decide) k) ?_
              show own_Fin p e below _ (T82.setTop (mkF m 279 #[.val (.int p0), .val (.int p1), .val (.int p2), .val (.long p3), .second, .val (.long p4), .second, .val (.int p5), .val (.int (p0 &&& (3 : Int32))), .val (.int kb), .val (.int fa), .val (.int fb), .val (.int sb), .val (.long tb), .second, .val (.ref b6), .val (.ref b15), .val (.int (3 : Int32)), .val (.ref b77_0), .val (.int (0 : Int32)), .val (.int (0 : Int32)), .val (.int (1 : Int32)), .val (.int (1 : Int32))] []))
              refine own_st (fun t k => XS.iload X82.here hx rfl (hb hby at_279) rfl k) ?_
              show own_Fin p e below _ (T82.setTop (mkF m 281 #[.val (.int p0), .val (.int p1), .val (.int p2), .val (.long p3), .second, .val (.long p4), .second, .val (.int p5), .val (.int (p0 &&& (3 : Int32))), .val (.int kb), .val (.int fa), .val (.int fb), .val (.int sb), .val (.long tb), .second, .val (.ref b6), .val (.ref b15), .val (.int (3 : Int32)), .val (.ref b77_0), .val (.int (0 : Int32)), .val (.int (0 : Int32)), .val (.int (1 : Int32)), .val (.int (1 : Int32))] [(.int (1 : Int32))]))
              refine own_st (fun t k => XS.ifNo X82.here hx rfl (hb hby at_281) rfl (by decide) k) ?_
              show own_Fin p e below _ (T82.setTop (mkF m 284 #[.val (.int p0), .val (.int p1), .val (.int p2), .val (.long p3), .second, .val (.long p4), .second, .val (.int p5), .val (.int (p0 &&& (3 : Int32))), .val (.int kb), .val (.int fa), .val (.int fb), .val (.int sb), .val (.long tb), .second, .val (.ref b6), .val (.ref b15), .val (.int (3 : Int32)), .val (.ref b77_0), .val (.int (0 : Int32)), .val (.int (0 : Int32)), .val (.int (1 : Int32)), .val (.int (1 : Int32))] []))
              refine own_st (fun t k => XS.iconst X82.here hx rfl (hb hby at_284) k) ?_
              show own_Fin p e below _ (T82.setTop (mkF m 285 #[.val (.int p0), .val (.int p1), .val (.int p2), .val (.long p3), .second, .val (.long p4), .second, .val (.int p5), .val (.int (p0 &&& (3 : Int32))), .val (.int kb), .val (.int fa), .val (.int fb), .val (.int sb), .val (.long tb), .second, .val (.ref b6), .val (.ref b15), .val (.int (3 : Int32)), .val (.ref b77_0), .val (.int (0 : Int32)), .val (.int (0 : Int32)), .val (.int (1 : Int32)), .val (.int (1 : Int32))] [(.int (1 : Int32))]))
              refine own_st (fun t k => XS.goto X82.here hx rfl (pc0 := 285) (pc' := 289) rfl (hb hby at_285) (by decide) (by decide) k) ?_
              show own_Fin p e below _ (T82.setTop (mkF m 289 #[.val (.int p0), .val (.int p1), .val (.int p2), .val (.long p3), .second, .val (.long p4), .second, .val (.int p5), .val (.int (p0 &&& (3 : Int32))), .val (.int kb), .val (.int fa), .val (.int fb), .val (.int sb), .val (.long tb), .second, .val (.ref b6), .val (.ref b15), .val (.int (3 : Int32)), .val (.ref b77_0), .val (.int (0 : Int32)), .val (.int (0 : Int32)), .val (.int (1 : Int32)), .val (.int (1 : Int32))] [(.int (1 : Int32))]))
              obtain ⟨fs, hr, hrun, hended, hW, hsame⟩ := X82.leave (v := some (.int (1 : Int32))) (fun h => by rw [Bd.returns] at h; cases h)
              exact ⟨_, _, retN X82 hx (t := .boolean) Bd.returns (by simp) (hb hby at_289) hr, hrun, hended, _, _, rfl, ⟨rfl, N82⟩, ⟨_, rfl⟩, hW, hsame.mono (by decide) (by decide)⟩
          by_cases qF5 : (p5 &&& (8 : Int32)) = (0 : Int32)
          ·
            refine own_st (fun t k => XS.ifYes X0.here hx rfl (pc0 := 85) (pc' := 92) rfl (hb hby at_85) rfl ((if0 _ _).trans (teq qF5).1) (by decide) (by decide) k) ?_
            show own_Fin p e below _ (s₁.setTop (mkF m 92 #[.val (.int p0), .val (.int p1), .val (.int p2), .val (.long p3), .second, .val (.long p4), .second, .val (.int p5), .val (.int (p0 &&& (3 : Int32))), .val (.int kb), .val (.int fa), .val (.int fb), .val (.int sb), .unset, .unset, .unset, .unset, .unset, .unset, .unset, .unset, .unset, .unset] []))
            refine own_st (fun t k => XS.lload X0.here hx rfl (hb hby at_92) rfl k) ?_
            show own_Fin p e below _ (s₁.setTop (mkF m 94 #[.val (.int p0), .val (.int p1), .val (.int p2), .val (.long p3), .second, .val (.long p4), .second, .val (.int p5), .val (.int (p0 &&& (3 : Int32))), .val (.int kb), .val (.int fa), .val (.int fb), .val (.int sb), .unset, .unset, .unset, .unset, .unset, .unset, .unset, .unset, .unset, .unset] [(.long p4)]))
            exact J94 p4 trivial
          ·
            refine own_st (fun t k => XS.ifNo X0.here hx rfl (hb hby at_85) rfl ((if0 _ _).trans (feq qF5).1) k) ?_
            show own_Fin p e below _ (s₁.setTop (mkF m 88 #[.val (.int p0), .val (.int p1), .val (.int p2), .val (.long p3), .second, .val (.long p4), .second, .val (.int p5), .val (.int (p0 &&& (3 : Int32))), .val (.int kb), .val (.int fa), .val (.int fb), .val (.int sb), .unset, .unset, .unset, .unset, .unset, .unset, .unset, .unset, .unset, .unset] []))
            refine own_st (fun t k => XS.lloadN X0.here hx rfl (hb hby at_88) rfl k) ?_
            show own_Fin p e below _ (s₁.setTop (mkF m 89 #[.val (.int p0), .val (.int p1), .val (.int p2), .val (.long p3), .second, .val (.long p4), .second, .val (.int p5), .val (.int (p0 &&& (3 : Int32))), .val (.int kb), .val (.int fa), .val (.int fb), .val (.int sb), .unset, .unset, .unset, .unset, .unset, .unset, .unset, .unset, .unset, .unset] [(.long p3)]))
            refine own_st (fun t k => XS.goto X0.here hx rfl (pc0 := 89) (pc' := 94) rfl (hb hby at_89) (by decide) (by decide) k) ?_
            show own_Fin p e below _ (s₁.setTop (mkF m 94 #[.val (.int p0), .val (.int p1), .val (.int p2), .val (.long p3), .second, .val (.long p4), .second, .val (.int p5), .val (.int (p0 &&& (3 : Int32))), .val (.int kb), .val (.int fa), .val (.int fb), .val (.int sb), .unset, .unset, .unset, .unset, .unset, .unset, .unset, .unset, .unset, .unset] [(.long p3)]))
            exact J94 p3 trivial
        by_cases qF4 : (p5 &&& (4 : Int32)) = (0 : Int32)
        ·
          refine own_st (fun t k => XS.ifYes X0.here hx rfl (pc0 := 70) (pc' := 77) rfl (hb hby at_70) rfl ((if0 _ _).trans (teq qF4).1) (by decide) (by decide) k) ?_
          show own_Fin p e below _ (s₁.setTop (mkF m 77 #[.val (.int p0), .val (.int p1), .val (.int p2), .val (.long p3), .second, .val (.long p4), .second, .val (.int p5), .val (.int (p0 &&& (3 : Int32))), .val (.int kb), .val (.int fa), .val (.int fb), .unset, .unset, .unset, .unset, .unset, .unset, .unset, .unset, .unset, .unset, .unset] []))
          refine own_st (fun t k => XS.iloadN X0.here hx rfl (hb hby at_77) rfl k) ?_
          show own_Fin p e below _ (s₁.setTop (mkF m 78 #[.val (.int p0), .val (.int p1), .val (.int p2), .val (.long p3), .second, .val (.long p4), .second, .val (.int p5), .val (.int (p0 &&& (3 : Int32))), .val (.int kb), .val (.int fa), .val (.int fb), .unset, .unset, .unset, .unset, .unset, .unset, .unset, .unset, .unset, .unset, .unset] [(.int p2)]))
          exact J78 p2 trivial
        ·
          refine own_st (fun t k => XS.ifNo X0.here hx rfl (hb hby at_70) rfl ((if0 _ _).trans (feq qF4).1) k) ?_
          show own_Fin p e below _ (s₁.setTop (mkF m 73 #[.val (.int p0), .val (.int p1), .val (.int p2), .val (.long p3), .second, .val (.long p4), .second, .val (.int p5), .val (.int (p0 &&& (3 : Int32))), .val (.int kb), .val (.int fa), .val (.int fb), .unset, .unset, .unset, .unset, .unset, .unset, .unset, .unset, .unset, .unset, .unset] []))
          refine own_st (fun t k => XS.iloadN X0.here hx rfl (hb hby at_73) rfl k) ?_
          show own_Fin p e below _ (s₁.setTop (mkF m 74 #[.val (.int p0), .val (.int p1), .val (.int p2), .val (.long p3), .second, .val (.long p4), .second, .val (.int p5), .val (.int (p0 &&& (3 : Int32))), .val (.int kb), .val (.int fa), .val (.int fb), .unset, .unset, .unset, .unset, .unset, .unset, .unset, .unset, .unset, .unset, .unset] [(.int p1)]))
          refine own_st (fun t k => XS.goto X0.here hx rfl (pc0 := 74) (pc' := 78) rfl (hb hby at_74) (by decide) (by decide) k) ?_
          show own_Fin p e below _ (s₁.setTop (mkF m 78 #[.val (.int p0), .val (.int p1), .val (.int p2), .val (.long p3), .second, .val (.long p4), .second, .val (.int p5), .val (.int (p0 &&& (3 : Int32))), .val (.int kb), .val (.int fa), .val (.int fb), .unset, .unset, .unset, .unset, .unset, .unset, .unset, .unset, .unset, .unset, .unset] [(.int p1)]))
          exact J78 p1 trivial
      by_cases qF3 : (p5 &&& (2 : Int32)) = (0 : Int32)
      ·
        refine own_st (fun t k => XS.ifYes X0.here hx rfl (pc0 := 43) (pc' := 51) rfl (hb hby at_43) rfl ((if0 _ _).trans (teq qF3).1) (by decide) (by decide) k) ?_
        show own_Fin p e below _ (s₁.setTop (mkF m 51 #[.val (.int p0), .val (.int p1), .val (.int p2), .val (.long p3), .second, .val (.long p4), .second, .val (.int p5), .val (.int (p0 &&& (3 : Int32))), .val (.int kb), .val (.int fa), .unset, .unset, .unset, .unset, .unset, .unset, .unset, .unset, .unset, .unset, .unset, .unset] []))
        refine own_st (fun t k => XS.iloadN X0.here hx rfl (hb hby at_51) rfl k) ?_
        show own_Fin p e below _ (s₁.setTop (mkF m 52 #[.val (.int p0), .val (.int p1), .val (.int p2), .val (.long p3), .second, .val (.long p4), .second, .val (.int p5), .val (.int (p0 &&& (3 : Int32))), .val (.int kb), .val (.int fa), .unset, .unset, .unset, .unset, .unset, .unset, .unset, .unset, .unset, .unset, .unset, .unset] [(.int p0)]))
        refine own_st (fun t k => XS.iconst X0.here hx rfl (hb hby at_52) k) ?_
        show own_Fin p e below _ (s₁.setTop (mkF m 53 #[.val (.int p0), .val (.int p1), .val (.int p2), .val (.long p3), .second, .val (.long p4), .second, .val (.int p5), .val (.int (p0 &&& (3 : Int32))), .val (.int kb), .val (.int fa), .unset, .unset, .unset, .unset, .unset, .unset, .unset, .unset, .unset, .unset, .unset, .unset] [(.int (5 : Int32)), (.int p0)]))
        refine own_st (fun t k => XS.iushr X0.here hx rfl (hb hby at_53) rfl k) ?_
        show own_Fin p e below _ (s₁.setTop (mkF m 54 #[.val (.int p0), .val (.int p1), .val (.int p2), .val (.long p3), .second, .val (.long p4), .second, .val (.int p5), .val (.int (p0 &&& (3 : Int32))), .val (.int kb), .val (.int fa), .unset, .unset, .unset, .unset, .unset, .unset, .unset, .unset, .unset, .unset, .unset, .unset] [(.int ((p0.toUInt32 >>> ((5 : Int32) &&& 31).toUInt32).toInt32))]))
        refine own_st (fun t k => XS.iconst X0.here hx rfl (hb hby at_54) k) ?_
        show own_Fin p e below _ (s₁.setTop (mkF m 55 #[.val (.int p0), .val (.int p1), .val (.int p2), .val (.long p3), .second, .val (.long p4), .second, .val (.int p5), .val (.int (p0 &&& (3 : Int32))), .val (.int kb), .val (.int fa), .unset, .unset, .unset, .unset, .unset, .unset, .unset, .unset, .unset, .unset, .unset, .unset] [(.int (1 : Int32)), (.int ((p0.toUInt32 >>> ((5 : Int32) &&& 31).toUInt32).toInt32))]))
        refine own_st (fun t k => XS.iand X0.here hx rfl (hb hby at_55) rfl k) ?_
        show own_Fin p e below _ (s₁.setTop (mkF m 56 #[.val (.int p0), .val (.int p1), .val (.int p2), .val (.long p3), .second, .val (.long p4), .second, .val (.int p5), .val (.int (p0 &&& (3 : Int32))), .val (.int kb), .val (.int fa), .unset, .unset, .unset, .unset, .unset, .unset, .unset, .unset, .unset, .unset, .unset, .unset] [(.int (((p0.toUInt32 >>> ((5 : Int32) &&& 31).toUInt32).toInt32) &&& (1 : Int32)))]))
        by_cases qF87 : (((p0.toUInt32 >>> ((5 : Int32) &&& 31).toUInt32).toInt32) &&& (1 : Int32)) = (0 : Int32)
        ·
          refine own_st (fun t k => XS.ifYes X0.here hx rfl (pc0 := 56) (pc' := 63) rfl (hb hby at_56) rfl ((if0 _ _).trans (teq qF87).1) (by decide) (by decide) k) ?_
          show own_Fin p e below _ (s₁.setTop (mkF m 63 #[.val (.int p0), .val (.int p1), .val (.int p2), .val (.long p3), .second, .val (.long p4), .second, .val (.int p5), .val (.int (p0 &&& (3 : Int32))), .val (.int kb), .val (.int fa), .unset, .unset, .unset, .unset, .unset, .unset, .unset, .unset, .unset, .unset, .unset, .unset] []))
          refine own_st (fun t k => XS.iconst X0.here hx rfl (hb hby at_63) k) ?_
          show own_Fin p e below _ (s₁.setTop (mkF m 64 #[.val (.int p0), .val (.int p1), .val (.int p2), .val (.long p3), .second, .val (.long p4), .second, .val (.int p5), .val (.int (p0 &&& (3 : Int32))), .val (.int kb), .val (.int fa), .unset, .unset, .unset, .unset, .unset, .unset, .unset, .unset, .unset, .unset, .unset, .unset] [(.int (0 : Int32))]))
          exact J64 (0 : Int32) (by first | assumption | decide)
        ·
          refine own_st (fun t k => XS.ifNo X0.here hx rfl (hb hby at_56) rfl ((if0 _ _).trans (feq qF87).1) k) ?_
          show own_Fin p e below _ (s₁.setTop (mkF m 59 #[.val (.int p0), .val (.int p1), .val (.int p2), .val (.long p3), .second, .val (.long p4), .second, .val (.int p5), .val (.int (p0 &&& (3 : Int32))), .val (.int kb), .val (.int fa), .unset, .unset, .unset, .unset, .unset, .unset, .unset, .unset, .unset, .unset, .unset, .unset] []))
          refine own_st (fun t k => XS.iconst X0.here hx rfl (hb hby at_59) k) ?_
          show own_Fin p e below _ (s₁.setTop (mkF m 60 #[.val (.int p0), .val (.int p1), .val (.int p2), .val (.long p3), .second, .val (.long p4), .second, .val (.int p5), .val (.int (p0 &&& (3 : Int32))), .val (.int kb), .val (.int fa), .unset, .unset, .unset, .unset, .unset, .unset, .unset, .unset, .unset, .unset, .unset, .unset] [(.int (1 : Int32))]))
          refine own_st (fun t k => XS.goto X0.here hx rfl (pc0 := 60) (pc' := 64) rfl (hb hby at_60) (by decide) (by decide) k) ?_
          show own_Fin p e below _ (s₁.setTop (mkF m 64 #[.val (.int p0), .val (.int p1), .val (.int p2), .val (.long p3), .second, .val (.long p4), .second, .val (.int p5), .val (.int (p0 &&& (3 : Int32))), .val (.int kb), .val (.int fa), .unset, .unset, .unset, .unset, .unset, .unset, .unset, .unset, .unset, .unset, .unset, .unset] [(.int (1 : Int32))]))
          exact J64 (1 : Int32) (by first | assumption | decide)
      ·
        refine own_st (fun t k => XS.ifNo X0.here hx rfl (hb hby at_43) rfl ((if0 _ _).trans (feq qF3).1) k) ?_
        show own_Fin p e below _ (s₁.setTop (mkF m 46 #[.val (.int p0), .val (.int p1), .val (.int p2), .val (.long p3), .second, .val (.long p4), .second, .val (.int p5), .val (.int (p0 &&& (3 : Int32))), .val (.int kb), .val (.int fa), .unset, .unset, .unset, .unset, .unset, .unset, .unset, .unset, .unset, .unset, .unset, .unset] []))
        refine own_st (fun t k => XS.iload X0.here hx rfl (hb hby at_46) rfl k) ?_
        show own_Fin p e below _ (s₁.setTop (mkF m 48 #[.val (.int p0), .val (.int p1), .val (.int p2), .val (.long p3), .second, .val (.long p4), .second, .val (.int p5), .val (.int (p0 &&& (3 : Int32))), .val (.int kb), .val (.int fa), .unset, .unset, .unset, .unset, .unset, .unset, .unset, .unset, .unset, .unset, .unset, .unset] [(.int fa)]))
        refine own_st (fun t k => XS.goto X0.here hx rfl (pc0 := 48) (pc' := 64) rfl (hb hby at_48) (by decide) (by decide) k) ?_
        show own_Fin p e below _ (s₁.setTop (mkF m 64 #[.val (.int p0), .val (.int p1), .val (.int p2), .val (.long p3), .second, .val (.long p4), .second, .val (.int p5), .val (.int (p0 &&& (3 : Int32))), .val (.int kb), .val (.int fa), .unset, .unset, .unset, .unset, .unset, .unset, .unset, .unset, .unset, .unset, .unset, .unset] [(.int fa)]))
        exact J64 fa (by first | assumption | decide)
    by_cases qF2 : (((p0.toUInt32 >>> ((4 : Int32) &&& 31).toUInt32).toInt32) &&& (1 : Int32)) = (0 : Int32)
    ·
      refine own_st (fun t k => XS.ifYes X0.here hx rfl (pc0 := 29) (pc' := 36) rfl (hb hby at_29) rfl ((if0 _ _).trans (teq qF2).1) (by decide) (by decide) k) ?_
      show own_Fin p e below _ (s₁.setTop (mkF m 36 #[.val (.int p0), .val (.int p1), .val (.int p2), .val (.long p3), .second, .val (.long p4), .second, .val (.int p5), .val (.int (p0 &&& (3 : Int32))), .val (.int kb), .unset, .unset, .unset, .unset, .unset, .unset, .unset, .unset, .unset, .unset, .unset, .unset, .unset] []))
      refine own_st (fun t k => XS.iconst X0.here hx rfl (hb hby at_36) k) ?_
      show own_Fin p e below _ (s₁.setTop (mkF m 37 #[.val (.int p0), .val (.int p1), .val (.int p2), .val (.long p3), .second, .val (.long p4), .second, .val (.int p5), .val (.int (p0 &&& (3 : Int32))), .val (.int kb), .unset, .unset, .unset, .unset, .unset, .unset, .unset, .unset, .unset, .unset, .unset, .unset, .unset] [(.int (0 : Int32))]))
      exact J37 (0 : Int32) (by decide)
    ·
      refine own_st (fun t k => XS.ifNo X0.here hx rfl (hb hby at_29) rfl ((if0 _ _).trans (feq qF2).1) k) ?_
      show own_Fin p e below _ (s₁.setTop (mkF m 32 #[.val (.int p0), .val (.int p1), .val (.int p2), .val (.long p3), .second, .val (.long p4), .second, .val (.int p5), .val (.int (p0 &&& (3 : Int32))), .val (.int kb), .unset, .unset, .unset, .unset, .unset, .unset, .unset, .unset, .unset, .unset, .unset, .unset, .unset] []))
      refine own_st (fun t k => XS.iconst X0.here hx rfl (hb hby at_32) k) ?_
      show own_Fin p e below _ (s₁.setTop (mkF m 33 #[.val (.int p0), .val (.int p1), .val (.int p2), .val (.long p3), .second, .val (.long p4), .second, .val (.int p5), .val (.int (p0 &&& (3 : Int32))), .val (.int kb), .unset, .unset, .unset, .unset, .unset, .unset, .unset, .unset, .unset, .unset, .unset, .unset, .unset] [(.int (1 : Int32))]))
      refine own_st (fun t k => XS.goto X0.here hx rfl (pc0 := 33) (pc' := 37) rfl (hb hby at_33) (by decide) (by decide) k) ?_
      show own_Fin p e below _ (s₁.setTop (mkF m 37 #[.val (.int p0), .val (.int p1), .val (.int p2), .val (.long p3), .second, .val (.long p4), .second, .val (.int p5), .val (.int (p0 &&& (3 : Int32))), .val (.int kb), .unset, .unset, .unset, .unset, .unset, .unset, .unset, .unset, .unset, .unset, .unset, .unset, .unset] [(.int (1 : Int32))]))
      exact J37 (1 : Int32) (by decide)
  by_cases qF1 : (p5 &&& (1 : Int32)) = (0 : Int32)
  ·
    refine own_st (fun t k => XS.ifYes X0.here hx rfl (pc0 := 9) (pc' := 17) rfl (hb hby at_9) rfl ((if0 _ _).trans (teq qF1).1) (by decide) (by decide) k) ?_
    show own_Fin p e below _ (s₁.setTop (mkF m 17 #[.val (.int p0), .val (.int p1), .val (.int p2), .val (.long p3), .second, .val (.long p4), .second, .val (.int p5), .val (.int (p0 &&& (3 : Int32))), .unset, .unset, .unset, .unset, .unset, .unset, .unset, .unset, .unset, .unset, .unset, .unset, .unset, .unset] []))
    refine own_st (fun t k => XS.iloadN X0.here hx rfl (hb hby at_17) rfl k) ?_
    show own_Fin p e below _ (s₁.setTop (mkF m 18 #[.val (.int p0), .val (.int p1), .val (.int p2), .val (.long p3), .second, .val (.long p4), .second, .val (.int p5), .val (.int (p0 &&& (3 : Int32))), .unset, .unset, .unset, .unset, .unset, .unset, .unset, .unset, .unset, .unset, .unset, .unset, .unset, .unset] [(.int p0)]))
    refine own_st (fun t k => XS.iconst X0.here hx rfl (hb hby at_18) k) ?_
    show own_Fin p e below _ (s₁.setTop (mkF m 19 #[.val (.int p0), .val (.int p1), .val (.int p2), .val (.long p3), .second, .val (.long p4), .second, .val (.int p5), .val (.int (p0 &&& (3 : Int32))), .unset, .unset, .unset, .unset, .unset, .unset, .unset, .unset, .unset, .unset, .unset, .unset, .unset, .unset] [(.int (2 : Int32)), (.int p0)]))
    refine own_st (fun t k => XS.iushr X0.here hx rfl (hb hby at_19) rfl k) ?_
    show own_Fin p e below _ (s₁.setTop (mkF m 20 #[.val (.int p0), .val (.int p1), .val (.int p2), .val (.long p3), .second, .val (.long p4), .second, .val (.int p5), .val (.int (p0 &&& (3 : Int32))), .unset, .unset, .unset, .unset, .unset, .unset, .unset, .unset, .unset, .unset, .unset, .unset, .unset, .unset] [(.int ((p0.toUInt32 >>> ((2 : Int32) &&& 31).toUInt32).toInt32))]))
    refine own_st (fun t k => XS.iconst X0.here hx rfl (hb hby at_20) k) ?_
    show own_Fin p e below _ (s₁.setTop (mkF m 21 #[.val (.int p0), .val (.int p1), .val (.int p2), .val (.long p3), .second, .val (.long p4), .second, .val (.int p5), .val (.int (p0 &&& (3 : Int32))), .unset, .unset, .unset, .unset, .unset, .unset, .unset, .unset, .unset, .unset, .unset, .unset, .unset, .unset] [(.int (3 : Int32)), (.int ((p0.toUInt32 >>> ((2 : Int32) &&& 31).toUInt32).toInt32))]))
    refine own_st (fun t k => XS.iand X0.here hx rfl (hb hby at_21) rfl k) ?_
    show own_Fin p e below _ (s₁.setTop (mkF m 22 #[.val (.int p0), .val (.int p1), .val (.int p2), .val (.long p3), .second, .val (.long p4), .second, .val (.int p5), .val (.int (p0 &&& (3 : Int32))), .unset, .unset, .unset, .unset, .unset, .unset, .unset, .unset, .unset, .unset, .unset, .unset, .unset, .unset] [(.int (((p0.toUInt32 >>> ((2 : Int32) &&& 31).toUInt32).toInt32) &&& (3 : Int32)))]))
    exact J22 (((p0.toUInt32 >>> ((2 : Int32) &&& 31).toUInt32).toInt32) &&& (3 : Int32)) (own_mask4 _)
  ·
    refine own_st (fun t k => XS.ifNo X0.here hx rfl (hb hby at_9) rfl ((if0 _ _).trans (feq qF1).1) k) ?_
    show own_Fin p e below _ (s₁.setTop (mkF m 12 #[.val (.int p0), .val (.int p1), .val (.int p2), .val (.long p3), .second, .val (.long p4), .second, .val (.int p5), .val (.int (p0 &&& (3 : Int32))), .unset, .unset, .unset, .unset, .unset, .unset, .unset, .unset, .unset, .unset, .unset, .unset, .unset, .unset] []))
    refine own_st (fun t k => XS.iload X0.here hx rfl (hb hby at_12) rfl k) ?_
    show own_Fin p e below _ (s₁.setTop (mkF m 14 #[.val (.int p0), .val (.int p1), .val (.int p2), .val (.long p3), .second, .val (.long p4), .second, .val (.int p5), .val (.int (p0 &&& (3 : Int32))), .unset, .unset, .unset, .unset, .unset, .unset, .unset, .unset, .unset, .unset, .unset, .unset, .unset, .unset] [(.int (p0 &&& (3 : Int32)))]))
    refine own_st (fun t k => XS.goto X0.here hx rfl (pc0 := 14) (pc' := 22) rfl (hb hby at_14) (by decide) (by decide) k) ?_
    show own_Fin p e below _ (s₁.setTop (mkF m 22 #[.val (.int p0), .val (.int p1), .val (.int p2), .val (.long p3), .second, .val (.long p4), .second, .val (.int p5), .val (.int (p0 &&& (3 : Int32))), .unset, .unset, .unset, .unset, .unset, .unset, .unset, .unset, .unset, .unset, .unset, .unset, .unset, .unset] [(.int (p0 &&& (3 : Int32)))]))
    exact J22 (p0 &&& (3 : Int32)) (own_mask4 _)
theorem rm0 (l : Launch) (Z : State) (a0 : Array Value) (hw : ∀ d ∈ tables_1, d.before a0 Z = true) (ws : List Jvm.Cond) (w_ELECTION : Addr) (w_HEARTBEAT : Addr) (w_RELEASE : Addr) (w_REPLY : Addr) (cs : Int32) (p0 : Int32) (p1 : Int32) (p2 : Int32) (p3 : Int64) (p4 : Int64) (p5 : Int32) (h0 : Heap) (n0 : Nat) (Z0 : n0 ≤ Array.size h0) (PN : own_Pins Z h0 w_ELECTION w_HEARTBEAT w_RELEASE w_REPLY cs) :
    MetFree l x (head1 (Jvm.Cond.code x code maxLocals ret :: ws) room_1) (fun a U => a = #[(.int p0), (.int p1), (.int p2), (.long p3), (.long p4), (.int p5)] ∧ Z.Warmed39 U.vm ∧ U.heap = h0) (fun _ _ _ _ _ => True) (fun _ U o U' => ∃ v L, o = .returned v ∧ own_Q0 n0 (some (.int (1 : Int32))) v U'.heap L ∧ FrameEnd U o U' L room_1.cells room_1.slots) := by
  exact rm0_c l Z a0 hw ws w_ELECTION w_HEARTBEAT w_RELEASE w_REPLY cs p0 p1 p2 p3 p4 p5 h0 n0 Z0 PN
set_option maxRecDepth 65536 in
set_option maxHeartbeats 40000000 in
theorem comes_1 {Post : Tables → Env → Array Value → State → Outcome → State → Prop} (hpost : ∀ tb e args s v u, (limb_1_1.after args s (.returned v) u = true ∧ limb_1_2.after args s (.returned v) u = true ∧ True) → FrameEnd s (.returned v) u (Jvm.fieldLocs frame_1_writes args s ++ Jvm.arrayLocs frame_1_arrays args s ++ Jvm.staticLocs frame_1_statics s) 16 128 → Post tb e args s (.returned v) u) :
    ArmFor flags0 classFile x code maxLocals ret World_1 tables_1 room_1 Calls_1 rest_1 Pre_1 Post := by
  intro l hfl _ _ p e ha hc hk s m args below hf hA hF happ hP
  obtain ⟨hcalls, hrest, hpre⟩ := hP
  obtain ⟨-, -, -, hnamed, -, -, -, hat⟩ := (Spec.applies_iff hf).mp happ
  obtain ⟨hg, hn⟩ := and_e (Cond.before_iff.mp (show (Jvm.Cond.and given_1 narrow_1).before args s = true from hpre))
  obtain ⟨hgl, hgr⟩ := and_e hg
  obtain ⟨hgrl, hgrr⟩ := and_e hgr
  obtain ⟨hgrrl, hgrrr⟩ := and_e hgrr
  obtain ⟨hgrrrl, hgrrrr⟩ := and_e hgrrr
  obtain ⟨hgrrrrl, hgrrrrr⟩ := and_e hgrrrr
  obtain ⟨hgrrrrrl, hgrrrrrr⟩ := and_e hgrrrrr
  obtain ⟨v0, v1, v2, v3, v4, v5, rfl⟩ : ∃ v0 v1 v2 v3 v4 v5 : Value, args = #[v0, v1, v2, v3, v4, v5] := by
    have hs : args.size = 6 := by simpa [Cond.value, given_1] using hgl
    obtain ⟨L⟩ := args
    match L, hs with
    | [v0, v1, v2, v3, v4, v5], _ => exact ⟨v0, v1, v2, v3, v4, v5, rfl⟩
  have hw := fun d (hd : d ∈ tables_1) => atoms_spec (ws := Jvm.Cond.code x code maxLocals ret :: tables_1) hat d (List.mem_cons_of_mem _ hd)
  have hfit : Fit s := fun {y c} hc i hi => by
    obtain ⟨ha, rfl⟩ := Array.getElem?_eq_some_iff.mp hc
    have q := List.all_eq_true.mp ((Array.all_eq_true_iff_forall_mem.mp hF) _ (Array.getElem_mem ha)) i (List.mem_range.mpr hi)
    simpa [Array.getElem?_eq_getElem hi] using q
  obtain ⟨p0, ei0⟩ := is_v hgrl
  obtain rfl : v0 = (.int p0) := Option.some.inj ei0
  obtain ⟨p1, ei1⟩ := is_v hgrrl
  obtain rfl : v1 = (.int p1) := Option.some.inj ei1
  obtain ⟨p2, ei2⟩ := is_v hgrrrl
  obtain rfl : v2 = (.int p2) := Option.some.inj ei2
  obtain ⟨p3, ei3⟩ := isL_v hgrrrrl
  obtain rfl : v3 = (.long p3) := Option.some.inj ei3
  obtain ⟨p4, ei4⟩ := isL_v hgrrrrrl
  obtain rfl : v4 = (.long p4) := Option.some.inj ei4
  obtain ⟨p5, ei5⟩ := is_v hgrrrrrr
  obtain rfl : v5 = (.int p5) := Option.some.inj ei5
  obtain ⟨hnl, hnr⟩ := and_e hn
  obtain ⟨hnrl, hnrr⟩ := and_e hnr
  obtain ⟨hnrrl, hnrrr⟩ := and_e hnrr
  obtain ⟨hnrrrl, hnrrrr⟩ := and_e hnrrr
  obtain ⟨hnrrrrl, hnrrrrr⟩ := and_e hnrrrr
  obtain ⟨hnrrrrrl, hnrrrrrr⟩ := and_e hnrrrrr
  obtain ⟨hnrrrrrrl, hnrrrrrrr⟩ := and_e hnrrrrrr
  obtain ⟨w_ELECTION, ev_ELECTION⟩ := exa_v hnl
  have S_ELECTION := Sta.start ev_ELECTION (Or.inr ⟨(hw _ (List.mem_of_getElem? (i := 8) rfl)), (hw _ (List.mem_of_getElem? (i := 9) rfl))⟩)
  have E_ELECTION := Exa.start ev_ELECTION hnl
  obtain ⟨w_HEARTBEAT, ev_HEARTBEAT⟩ := exa_v hnrl
  have S_HEARTBEAT := Sta.start ev_HEARTBEAT (Or.inr ⟨(hw _ (List.mem_of_getElem? (i := 8) rfl)), (hw _ (List.mem_of_getElem? (i := 32) rfl))⟩)
  have E_HEARTBEAT := Exa.start ev_HEARTBEAT hnrl
  obtain ⟨w_RELEASE, ev_RELEASE⟩ := exa_v hnrrl
  have S_RELEASE := Sta.start ev_RELEASE (Or.inr ⟨(hw _ (List.mem_of_getElem? (i := 8) rfl)), (hw _ (List.mem_of_getElem? (i := 34) rfl))⟩)
  have E_RELEASE := Exa.start ev_RELEASE hnrrl
  obtain ⟨w_REPLY, ev_REPLY⟩ := exa_v hnrrrl
  have S_REPLY := Sta.start ev_REPLY (Or.inr ⟨(hw _ (List.mem_of_getElem? (i := 8) rfl)), (hw _ (List.mem_of_getElem? (i := 36) rfl))⟩)
  have E_REPLY := Exa.start ev_REPLY hnrrrl
  have F_REPLY_ordinal := own_fld ev_REPLY hnrrrrl
  have F_ELECTION_ordinal := own_fld ev_ELECTION hnrrrrrl
  have F_RELEASE_ordinal := own_fld ev_RELEASE hnrrrrrrl
  have F_HEARTBEAT_ordinal := own_fld ev_HEARTBEAT hnrrrrrrr
  obtain ⟨hsets, hown0⟩ := atoms_of _ (rest_1_c_eq ▸ (show rest_1_c.before _ s = true from hrest))
  obtain ⟨cs, ev_cs⟩ := is_v (Cond.before_iff.mp (hsets _ (List.mem_of_getElem? (i := 1) rfl)))
  have S_CS := Sta.start ev_cs (Or.inl (hsets _ (List.mem_of_getElem? (i := 0) rfl)))
  have D_CS := own_neI ev_cs (Cond.before_iff.mp (hsets _ (List.mem_of_getElem? (i := 2) rfl)))
  obtain ⟨n, o, h1, h2, h3, _, L, rfl, ⟨rfl, N⟩, hq⟩ := rm0 l s _ hw tables_1 w_ELECTION w_HEARTBEAT w_RELEASE w_REPLY cs p0 p1 p2 p3 p4 p5 s.heap s.heap.size (Nat.le_refl _) (by exact ⟨S_ELECTION, E_ELECTION, S_HEARTBEAT, E_HEARTBEAT, S_RELEASE, E_RELEASE, S_REPLY, E_REPLY, F_REPLY_ordinal, F_ELECTION_ordinal, F_RELEASE_ordinal, F_HEARTBEAT_ordinal, S_CS, D_CS⟩) p e ha hc hk s m _ below hf ((Spec.applies_iff_loose hf).mp happ).1 ⟨rfl, State.Warmed39.refl s, rfl⟩ trivial
  refine ⟨n, _, h1, h2, h3, hpost _ _ _ _ _ _ ⟨Cond.after_iff.mpr rfl, Cond.after_iff.mpr (eq_i res_at (Term.int_eval (1)) rfl), trivial⟩ ⟨hq.1, hq.2.1, (hq.2.2.sift fun y hy => Or.inr (N y hy)).mono (by decide) (by decide)⟩⟩
theorem main_1_1 : Claimed_1_1 := comes_1 fun _ _ _ _ _ _ h hF => ⟨h.1, hF⟩
theorem main_1_2 : Claimed_1_2 := comes_1 fun _ _ _ _ _ _ h hF => ⟨h.2.1, hF⟩
end Jvm.Pilot.@@N@@
namespace Jvm.Pilot.@@N@@
open Jvm Jvm.ClassFile Sem Op Lib Jvm.Free Jvm.Stand Jvm.Pilot.@@N@@.Jvm.D
/-! MADE BY PROGRAM (witnessworld.py) out of the Statement's table words and the real class files: 19 classes; the members and pool entries that the words name. The judged class is class 1, her method 2. -/
namespace start1
open Jvm.ClassFile
def u (s : String) : CpInfo := .utf8 (stringToUtf16 s)
/-- a pool by its gaps: so many unusable entries, then the entry; so many at the end -/
def gap : Nat → List CpInfo → List CpInfo
  | 0, r => r
  | n + 1, r => .unusable :: gap n r
def poolList (es : List (Nat × CpInfo)) (last : Nat) : List CpInfo := es.foldr (fun e r => gap e.1 (e.2 :: r)) (gap last [])
def pool (es : List (Nat × CpInfo)) (last : Nat) : Array CpInfo := ⟨poolList es last⟩
def fileOf (pool : Array CpInfo) (this : Nat) (attrs : Array Attribute := #[]) (ms : Array MethodInfo := #[]) (fl : Nat := 33) (sup : Nat := 0) (ifs : Array Nat := #[]) (fds : Array FieldInfo := #[]) : ClassFile where
  minorVersion := 0
  majorVersion := 65
  constantPool := pool
  accessFlags := fl
  thisClass := this
  superClass := sup
  interfaces := ifs
  fields := fds
  methods := ms
  attributes := attrs
def plain (name : String) (sup : Option ClassId) : Class where
  name := name
  kind := .ordinary
  loader := none
  accessFlags := 33
  super := sup
  interfaces := #[]
  cf := none
  fields := #[]
  methods := #[]
  instanceTypes := #[]
  staticTypes := #[]
  resolved := #[]
  callSites := []
  init := .initialized
  statics := none
  mirror := none

def pool0 : Array CpInfo := pool [(5, u "<init>"), (0, u "()V"), (1, .class_ 10), (1, u "java/lang/Object")] 113

def k0c0 : Code := { maxStack := 0, maxLocals := 1, code := object_method_1_code, exceptionTable := #[], attributes := #[] }
def k0m0 : Method := { name := "<init>", desc := "()V", sig := { parameters := [], returnType := none }, accessFlags := 1, code := some k0c0 }
/-- java/lang/Object -/
def k0 : Class := { plain "java/lang/Object" none with
  accessFlags := 33
  interfaces := #[]
  cf := some (fileOf pool0 8 #[] #[{ accessFlags := 1, nameIndex := 5, descriptorIndex := 6, attributes := #[] }] 33 0 #[] #[])
  fields := #[]
  methods := #[k0m0]
  instanceTypes := #[]
  staticTypes := #[]
  resolved := Array.replicate 124 none
  statics := none }

def pool1 : Array CpInfo := pool [(2, .class_ 4), (1, u "java/lang/Object"), (0, u "<init>"), (0, u "()V"), (0, .fieldref 8 9), (0, .class_ 10), (0, .nameAndType 11 12), (0, u "com/example/deioces/deioces/Message$Kind"), (0, u "ELECTION"), (0, u "Lcom/example/deioces/deioces/Message$Kind;"), (0, .fieldref 8 14), (0, .nameAndType 15 12), (0, u "REPLY"), (0, .fieldref 8 17), (0, .nameAndType 18 12), (0, u "RELEASE"), (0, .fieldref 8 20), (0, .nameAndType 21 12), (0, u "HEARTBEAT"), (0, .class_ 23), (0, u "com/example/deioces/deioces/Message"), (0, .methodref 25 26), (0, .class_ 27), (0, .nameAndType 28 29), (0, u "com/example/deioces/deioces/MessageEqualsPinLaw"), (0, u "kindOf"), (0, u "(I)Lcom/example/deioces/deioces/Message$Kind;"), (0, .methodref 22 31), (0, .nameAndType 5 32), (0, u "(Lcom/example/deioces/deioces/Message$Kind;IJZ)V"), (0, .methodref 34 35), (0, .class_ 36), (0, .nameAndType 37 38), (0, u "java/lang/String"), (0, u "valueOf"), (0, u "(C)Ljava/lang/String;"), (0, .methodref 22 40), (0, .nameAndType 41 42), (0, u "equals"), (0, u "(Ljava/lang/Object;)Z"), (3, u "law"), (0, u "(IIIJJI)Z")] 4

def k1m0 : Method := { name := "<init>", desc := "()V", sig := { parameters := [], returnType := none }, accessFlags := 1, code := none }
def k1c1 : Code := { maxStack := 2, maxLocals := 1, code := method_2_code, exceptionTable := #[], attributes := #[] }
def k1m1 : Method := { name := "kindOf", desc := "(I)Lcom/example/deioces/deioces/Message$Kind;", sig := { parameters := [.int], returnType := some (.object "com/example/deioces/deioces/Message$Kind") }, accessFlags := 10, code := some k1c1 }
def k1c2 : Code := { maxStack := 7, maxLocals := 23, code := code, exceptionTable := #[], attributes := #[] }
def k1m2 : Method := { name := "law", desc := "(IIIJJI)Z", sig := { parameters := [.int, .int, .int, .long, .long, .int], returnType := some .boolean }, accessFlags := 9, code := some k1c2 }
/-- com/example/deioces/deioces/MessageEqualsPinLaw -/
def k1 : Class := { plain "com/example/deioces/deioces/MessageEqualsPinLaw" (some 0) with
  accessFlags := 49
  interfaces := #[]
  cf := some (fileOf pool1 25 #[] #[{ accessFlags := 1, nameIndex := 5, descriptorIndex := 6, attributes := #[] }, { accessFlags := 10, nameIndex := 28, descriptorIndex := 29, attributes := #[] }, { accessFlags := 9, nameIndex := 46, descriptorIndex := 47, attributes := #[] }] 49 2 #[] #[])
  fields := #[]
  methods := #[k1m0, k1m1, k1m2]
  instanceTypes := #[]
  staticTypes := #[]
  resolved := Array.replicate 52 none
  statics := none }

def pool2 : Array CpInfo := pool [(1, .methodref 2 3), (0, .class_ 4), (0, .nameAndType 5 6), (0, u "java/lang/Object"), (0, u "<init>"), (0, u "()V"), (0, .fieldref 8 9), (0, .class_ 10), (0, .nameAndType 11 12), (0, u "com/example/deioces/deioces/Message"), (0, u "kind"), (0, u "Lcom/example/deioces/deioces/Message$Kind;"), (0, .fieldref 8 14), (0, .nameAndType 15 16), (0, u "sender"), (0, u "I"), (0, .fieldref 8 18), (0, .nameAndType 19 20), (0, u "stamp"), (0, u "J"), (0, .fieldref 8 22), (0, .nameAndType 23 24), (0, u "supportive"), (0, u "Z"), (1, .class_ 28), (1, u "com/example/deioces/deioces/Message$Kind"), (3, u "(Lcom/example/deioces/deioces/Message$Kind;IJZ)V"), (62, u "equals"), (0, u "(Ljava/lang/Object;)Z")] 25

def k2c0 : Code := { maxStack := 3, maxLocals := 6, code := prog_30_method_1_code, exceptionTable := #[], attributes := #[] }
def k2m0 : Method := { name := "<init>", desc := "(Lcom/example/deioces/deioces/Message$Kind;IJZ)V", sig := { parameters := [(.object "com/example/deioces/deioces/Message$Kind"), .int, .long, .boolean], returnType := none }, accessFlags := 0, code := some k2c0 }
def k2c1 : Code := { maxStack := 4, maxLocals := 3, code := prog_30_method_10_code, exceptionTable := #[], attributes := #[] }
def k2m1 : Method := { name := "equals", desc := "(Ljava/lang/Object;)Z", sig := { parameters := [(.object "java/lang/Object")], returnType := some .boolean }, accessFlags := 1, code := some k2c1 }
/-- com/example/deioces/deioces/Message -/
def k2 : Class := { plain "com/example/deioces/deioces/Message" (some 0) with
  accessFlags := 32
  interfaces := #[]
  cf := some (fileOf pool2 8 #[.nestMembers #[26]] #[{ accessFlags := 0, nameIndex := 5, descriptorIndex := 32, attributes := #[] }, { accessFlags := 1, nameIndex := 95, descriptorIndex := 96, attributes := #[] }] 32 2 #[] #[{ accessFlags := 18, nameIndex := 11, descriptorIndex := 12, attributes := #[] }, { accessFlags := 18, nameIndex := 15, descriptorIndex := 16, attributes := #[] }, { accessFlags := 18, nameIndex := 19, descriptorIndex := 20, attributes := #[] }, { accessFlags := 18, nameIndex := 23, descriptorIndex := 24, attributes := #[] }])
  fields := #[{ name := "kind", type := (.object "com/example/deioces/deioces/Message$Kind"), accessFlags := 18, slot := 0, constantValue := 0 }, { name := "sender", type := .int, accessFlags := 18, slot := 1, constantValue := 0 }, { name := "stamp", type := .long, accessFlags := 18, slot := 2, constantValue := 0 }, { name := "supportive", type := .boolean, accessFlags := 18, slot := 3, constantValue := 0 }]
  methods := #[k2m0, k2m1]
  instanceTypes := #[(.object "com/example/deioces/deioces/Message$Kind"), .int, .long, .boolean]
  staticTypes := #[]
  resolved := Array.replicate 122 none
  statics := none }

def pool3 : Array CpInfo := pool [(1, .class_ 2), (0, u "java/lang/constant/Constable"), (0, .class_ 4), (0, u "java/lang/Object")] 6

/-- java/lang/constant/Constable -/
def k3 : Class := { plain "java/lang/constant/Constable" (some 0) with
  accessFlags := 1537
  interfaces := #[]
  cf := some (fileOf pool3 1 #[] #[] 1537 3 #[] #[])
  fields := #[]
  methods := #[]
  instanceTypes := #[]
  staticTypes := #[]
  resolved := Array.replicate 11 none
  statics := none }

def pool4 : Array CpInfo := pool [(1, .class_ 2), (0, u "java/lang/Comparable"), (0, .class_ 4), (0, u "java/lang/Object")] 7

/-- java/lang/Comparable -/
def k4 : Class := { plain "java/lang/Comparable" (some 0) with
  accessFlags := 1537
  interfaces := #[]
  cf := some (fileOf pool4 1 #[] #[] 1537 3 #[] #[])
  fields := #[]
  methods := #[]
  instanceTypes := #[]
  staticTypes := #[]
  resolved := Array.replicate 12 none
  statics := none }

def pool5 : Array CpInfo := pool [(1, .class_ 2), (0, u "java/io/Serializable"), (0, .class_ 4), (0, u "java/lang/Object")] 2

/-- java/io/Serializable -/
def k5 : Class := { plain "java/io/Serializable" (some 0) with
  accessFlags := 1537
  interfaces := #[]
  cf := some (fileOf pool5 1 #[] #[] 1537 3 #[] #[])
  fields := #[]
  methods := #[]
  instanceTypes := #[]
  staticTypes := #[]
  resolved := Array.replicate 7 none
  statics := none }

def pool6 : Array CpInfo := pool [(2, .class_ 4), (1, u "java/lang/Enum"), (0, u "name"), (0, u "Ljava/lang/String;"), (2, u "ordinal"), (0, u "I"), (1, .class_ 14), (1, u "java/lang/Object"), (4, u "hash"), (86, .class_ 108), (1, u "java/lang/Enum$EnumDesc"), (2, .class_ 112), (0, u "java/lang/constant/Constable"), (0, .class_ 114), (0, u "java/lang/Comparable"), (0, .class_ 116), (0, u "java/io/Serializable")] 87

/-- java/lang/Enum -/
def k6 : Class := { plain "java/lang/Enum" (some 0) with
  accessFlags := 1057
  interfaces := #[3, 4, 5]
  cf := some (fileOf pool6 2 #[.nestMembers #[106]] #[] 1057 12 #[111, 113, 115] #[{ accessFlags := 18, nameIndex := 5, descriptorIndex := 6, attributes := #[] }, { accessFlags := 18, nameIndex := 9, descriptorIndex := 10, attributes := #[] }, { accessFlags := 2, nameIndex := 19, descriptorIndex := 10, attributes := #[] }])
  fields := #[{ name := "name", type := (.object "java/lang/String"), accessFlags := 18, slot := 0, constantValue := 0 }, { name := "ordinal", type := .int, accessFlags := 18, slot := 1, constantValue := 0 }, { name := "hash", type := .int, accessFlags := 2, slot := 2, constantValue := 0 }]
  methods := #[]
  instanceTypes := #[(.object "java/lang/String"), .int, .int]
  staticTypes := #[]
  resolved := Array.replicate 204 none
  statics := none }

def pool7 : Array CpInfo := pool [(1, .class_ 2), (0, u "com/example/deioces/deioces/Message$Kind"), (2, u "ELECTION"), (0, u "Lcom/example/deioces/deioces/Message$Kind;"), (2, u "REPLY"), (2, u "RELEASE"), (2, u "HEARTBEAT"), (2, u "$VALUES"), (0, u "[Lcom/example/deioces/deioces/Message$Kind;"), (6, .class_ 28), (1, u "java/lang/Enum"), (8, u "code"), (0, u "I"), (2, u "bodyLength"), (41, .class_ 84), (0, u "com/example/deioces/deioces/Message")] 2

/-- com/example/deioces/deioces/Message$Kind -/
def k7 : Class := { plain "com/example/deioces/deioces/Message$Kind" (some 6) with
  accessFlags := 16432
  interfaces := #[]
  cf := some (fileOf pool7 1 #[.nestHost 83] #[] 16432 26 #[] #[{ accessFlags := 16409, nameIndex := 5, descriptorIndex := 6, attributes := #[] }, { accessFlags := 16409, nameIndex := 9, descriptorIndex := 6, attributes := #[] }, { accessFlags := 16409, nameIndex := 12, descriptorIndex := 6, attributes := #[] }, { accessFlags := 16409, nameIndex := 15, descriptorIndex := 6, attributes := #[] }, { accessFlags := 18, nameIndex := 37, descriptorIndex := 38, attributes := #[] }, { accessFlags := 18, nameIndex := 41, descriptorIndex := 38, attributes := #[] }, { accessFlags := 4122, nameIndex := 18, descriptorIndex := 19, attributes := #[] }])
  fields := #[{ name := "ELECTION", type := (.object "com/example/deioces/deioces/Message$Kind"), accessFlags := 16409, slot := 0, constantValue := 0 }, { name := "REPLY", type := (.object "com/example/deioces/deioces/Message$Kind"), accessFlags := 16409, slot := 1, constantValue := 0 }, { name := "RELEASE", type := (.object "com/example/deioces/deioces/Message$Kind"), accessFlags := 16409, slot := 2, constantValue := 0 }, { name := "HEARTBEAT", type := (.object "com/example/deioces/deioces/Message$Kind"), accessFlags := 16409, slot := 3, constantValue := 0 }, { name := "code", type := .int, accessFlags := 18, slot := 3, constantValue := 0 }, { name := "bodyLength", type := .int, accessFlags := 18, slot := 4, constantValue := 0 }, { name := "$VALUES", type := (.array (.object "com/example/deioces/deioces/Message$Kind")), accessFlags := 4122, slot := 4, constantValue := 0 }]
  methods := #[]
  instanceTypes := #[(.object "java/lang/String"), .int, .int, .int, .int]
  staticTypes := #[(.object "com/example/deioces/deioces/Message$Kind"), (.object "com/example/deioces/deioces/Message$Kind"), (.object "com/example/deioces/deioces/Message$Kind"), (.object "com/example/deioces/deioces/Message$Kind"), (.array (.object "com/example/deioces/deioces/Message$Kind"))]
  resolved := Array.replicate 87 none
  statics := some 0 }

def pool8 : Array CpInfo := pool [(2, .class_ 4), (1, u "java/lang/CharSequence"), (42, .class_ 48), (0, u "java/lang/CharSequence$1CodePointIterator"), (10, .class_ 60), (0, u "java/lang/CharSequence$1CharIterator"), (5, .class_ 67), (0, u "java/lang/Object")] 63

/-- java/lang/CharSequence -/
def k8 : Class := { plain "java/lang/CharSequence" (some 0) with
  accessFlags := 1537
  interfaces := #[]
  cf := some (fileOf pool8 2 #[.nestMembers #[47, 59]] #[] 1537 66 #[] #[])
  fields := #[]
  methods := #[]
  instanceTypes := #[]
  staticTypes := #[]
  resolved := Array.replicate 131 none
  statics := none }

def pool9 : Array CpInfo := pool [(1, .class_ 2), (0, u "java/lang/constant/ConstantDesc"), (0, .class_ 4), (0, u "java/lang/Object")] 32

/-- java/lang/constant/ConstantDesc -/
def k9 : Class := { plain "java/lang/constant/ConstantDesc" (some 0) with
  accessFlags := 1537
  interfaces := #[]
  cf := some (fileOf pool9 1 #[] #[] 1537 3 #[] #[])
  fields := #[]
  methods := #[]
  instanceTypes := #[]
  staticTypes := #[]
  resolved := Array.replicate 37 none
  statics := none }

def pool10 : Array CpInfo := pool [(1, .methodref 2 3), (0, .class_ 4), (0, .nameAndType 5 6), (0, u "java/lang/Object"), (0, u "<init>"), (0, u "()V"), (2, .fieldref 10 11), (0, .class_ 12), (0, .nameAndType 13 14), (0, u "java/lang/String"), (0, u "value"), (0, u "[B"), (0, .fieldref 10 16), (0, .nameAndType 17 18), (0, u "coder"), (0, u "B"), (2, u "hash"), (0, u "I"), (2, u "hashIsZero"), (0, u "Z"), (11, .fieldref 10 39), (0, .nameAndType 40 26), (0, u "COMPACT_STRINGS"), (12, u "toBytes"), (53, .class_ 109), (1, u "java/lang/StringLatin1"), (99, .methodref 10 210), (0, .nameAndType 5 211), (0, u "([BB)V"), (157, u "(C)Z"), (205, .class_ 576), (0, u "java/lang/CharSequence"), (22, u "CASE_INSENSITIVE_ORDER"), (0, u "Ljava/util/Comparator;"), (181, u "valueOf"), (0, u "(C)Ljava/lang/String;"), (231, .methodref 107 1016), (0, .nameAndType 1017 369), (0, u "canEncode"), (0, .methodref 107 1019), (0, .nameAndType 53 1020), (0, u "(C)[B"), (80, u "serialPersistentFields"), (0, u "[Ljava/io/ObjectStreamField;"), (0, .class_ 1104), (0, u "java/lang/String$CaseInsensitiveComparator"), (1, .class_ 1107), (0, u "java/io/Serializable"), (0, .class_ 1109), (0, u "java/lang/Comparable"), (0, .class_ 1111), (0, u "java/lang/constant/Constable"), (0, .class_ 1113), (0, u "java/lang/constant/ConstantDesc"), (2, u "serialVersionUID"), (0, u "J"), (3, u "REPL"), (0, u "C"), (2, u "LATIN1"), (1, u "UTF16")] 323

def k10m0 : Method := { name := "<init>", desc := "()V", sig := { parameters := [], returnType := none }, accessFlags := 1, code := none }
def k10c1 : Code := { maxStack := 4, maxLocals := 1, code := jdk_42_method_139_code, exceptionTable := #[], attributes := #[] }
def k10m1 : Method := { name := "valueOf", desc := "(C)Ljava/lang/String;", sig := { parameters := [.char], returnType := some (.object "java/lang/String") }, accessFlags := 9, code := some k10c1 }
def k10c2 : Code := { maxStack := 2, maxLocals := 3, code := jdk_42_method_151_code, exceptionTable := #[], attributes := #[] }
def k10m2 : Method := { name := "<init>", desc := "([BB)V", sig := { parameters := [(.array .byte), .byte], returnType := none }, accessFlags := 0, code := some k10c2 }
/-- java/lang/String -/
def k10 : Class := { plain "java/lang/String" (some 0) with
  accessFlags := 49
  interfaces := #[5, 4, 8, 3, 9]
  cf := some (fileOf pool10 10 #[.nestMembers #[1103]] #[{ accessFlags := 1, nameIndex := 5, descriptorIndex := 6, attributes := #[] }, { accessFlags := 9, nameIndex := 782, descriptorIndex := 783, attributes := #[] }, { accessFlags := 0, nameIndex := 5, descriptorIndex := 211, attributes := #[] }] 49 2 #[1106, 1108, 575, 1110, 1112] #[{ accessFlags := 18, nameIndex := 13, descriptorIndex := 14, attributes := #[] }, { accessFlags := 18, nameIndex := 17, descriptorIndex := 18, attributes := #[] }, { accessFlags := 2, nameIndex := 21, descriptorIndex := 22, attributes := #[] }, { accessFlags := 2, nameIndex := 25, descriptorIndex := 26, attributes := #[] }, { accessFlags := 26, nameIndex := 1116, descriptorIndex := 1117, attributes := #[] }, { accessFlags := 24, nameIndex := 40, descriptorIndex := 26, attributes := #[] }, { accessFlags := 26, nameIndex := 1101, descriptorIndex := 1102, attributes := #[] }, { accessFlags := 26, nameIndex := 1121, descriptorIndex := 1122, attributes := #[] }, { accessFlags := 25, nameIndex := 599, descriptorIndex := 600, attributes := #[] }, { accessFlags := 24, nameIndex := 1125, descriptorIndex := 18, attributes := #[] }, { accessFlags := 24, nameIndex := 1127, descriptorIndex := 18, attributes := #[] }])
  fields := #[{ name := "value", type := (.array .byte), accessFlags := 18, slot := 0, constantValue := 0 }, { name := "coder", type := .byte, accessFlags := 18, slot := 1, constantValue := 0 }, { name := "hash", type := .int, accessFlags := 2, slot := 2, constantValue := 0 }, { name := "hashIsZero", type := .boolean, accessFlags := 2, slot := 3, constantValue := 0 }, { name := "serialVersionUID", type := .long, accessFlags := 26, slot := 0, constantValue := 0 }, { name := "COMPACT_STRINGS", type := .boolean, accessFlags := 24, slot := 1, constantValue := 0 }, { name := "serialPersistentFields", type := (.array (.object "java/io/ObjectStreamField")), accessFlags := 26, slot := 2, constantValue := 0 }, { name := "REPL", type := .char, accessFlags := 26, slot := 3, constantValue := 0 }, { name := "CASE_INSENSITIVE_ORDER", type := (.object "java/util/Comparator"), accessFlags := 25, slot := 4, constantValue := 0 }, { name := "LATIN1", type := .byte, accessFlags := 24, slot := 5, constantValue := 0 }, { name := "UTF16", type := .byte, accessFlags := 24, slot := 6, constantValue := 0 }]
  methods := #[k10m0, k10m1, k10m2]
  instanceTypes := #[(.array .byte), .byte, .int, .boolean]
  staticTypes := #[.long, .boolean, (.array (.object "java/io/ObjectStreamField")), .char, (.object "java/util/Comparator"), .byte, .byte]
  resolved := Array.replicate 1451 none
  statics := some 1 }

def pool11 : Array CpInfo := pool [(4, .class_ 6), (1, u "java/lang/Object"), (0, u "<init>"), (0, u "()V"), (5, .class_ 16), (1, u "java/lang/StringLatin1"), (73, u "canEncode"), (14, u "(C)Z"), (15, u "$assertionsDisabled"), (0, u "Z"), (98, .class_ 223), (1, u "java/lang/StringLatin1$LinesSpliterator"), (156, u "toBytes"), (1, u "(C)[B"), (7, .class_ 391), (0, u "java/lang/StringLatin1$CharsSpliterator")] 3

def k11m0 : Method := { name := "<init>", desc := "()V", sig := { parameters := [], returnType := none }, accessFlags := 0, code := none }
def k11c1 : Code := { maxStack := 2, maxLocals := 1, code := jdk_43_method_3_code, exceptionTable := #[], attributes := #[] }
def k11m1 : Method := { name := "canEncode", desc := "(C)Z", sig := { parameters := [.char], returnType := some .boolean }, accessFlags := 9, code := some k11c1 }
def k11c2 : Code := { maxStack := 4, maxLocals := 1, code := jdk_43_method_46_code, exceptionTable := #[], attributes := #[] }
def k11m2 : Method := { name := "toBytes", desc := "(C)[B", sig := { parameters := [.char], returnType := some (.array .byte) }, accessFlags := 9, code := some k11c2 }
/-- java/lang/StringLatin1 -/
def k11 : Class := { plain "java/lang/StringLatin1" (some 0) with
  accessFlags := 48
  interfaces := #[]
  cf := some (fileOf pool11 14 #[.nestMembers #[390, 221]] #[{ accessFlags := 0, nameIndex := 7, descriptorIndex := 8, attributes := #[] }, { accessFlags := 9, nameIndex := 90, descriptorIndex := 105, attributes := #[] }, { accessFlags := 9, nameIndex := 380, descriptorIndex := 382, attributes := #[] }] 48 4 #[] #[{ accessFlags := 4120, nameIndex := 121, descriptorIndex := 122, attributes := #[] }])
  fields := #[{ name := "$assertionsDisabled", type := .boolean, accessFlags := 4120, slot := 0, constantValue := 0 }]
  methods := #[k11m0, k11m1, k11m2]
  instanceTypes := #[]
  staticTypes := #[.boolean]
  resolved := Array.replicate 395 none
  statics := none }

def pool12 : Array CpInfo := pool [(2, .class_ 4), (1, u "java/lang/Object"), (0, u "<init>"), (0, u "()V"), (17, .class_ 26), (1, u "jdk/internal/util/Preconditions"), (28, .class_ 56), (0, u "jdk/internal/util/Preconditions$4"), (57, .class_ 115), (0, u "jdk/internal/util/Preconditions$1"), (7, u "SIOOBE_FORMATTER"), (0, u "Ljava/util/function/BiFunction;"), (0, .class_ 126), (0, u "jdk/internal/util/Preconditions$2"), (3, u "AIOOBE_FORMATTER"), (0, .class_ 132), (0, u "jdk/internal/util/Preconditions$3"), (3, u "IOOBE_FORMATTER")] 57

def k12m0 : Method := { name := "<init>", desc := "()V", sig := { parameters := [], returnType := none }, accessFlags := 1, code := none }
/-- jdk/internal/util/Preconditions -/
def k12 : Class := { plain "jdk/internal/util/Preconditions" (some 0) with
  accessFlags := 33
  interfaces := #[]
  cf := some (fileOf pool12 24 #[.nestMembers #[55, 131, 125, 114]] #[{ accessFlags := 1, nameIndex := 5, descriptorIndex := 6, attributes := #[] }] 33 2 #[] #[{ accessFlags := 25, nameIndex := 123, descriptorIndex := 124, attributes := #[] }, { accessFlags := 25, nameIndex := 130, descriptorIndex := 124, attributes := #[] }, { accessFlags := 25, nameIndex := 136, descriptorIndex := 124, attributes := #[] }])
  fields := #[{ name := "SIOOBE_FORMATTER", type := (.object "java/util/function/BiFunction"), accessFlags := 25, slot := 0, constantValue := 0 }, { name := "AIOOBE_FORMATTER", type := (.object "java/util/function/BiFunction"), accessFlags := 25, slot := 1, constantValue := 0 }, { name := "IOOBE_FORMATTER", type := (.object "java/util/function/BiFunction"), accessFlags := 25, slot := 2, constantValue := 0 }]
  methods := #[k12m0]
  instanceTypes := #[]
  staticTypes := #[(.object "java/util/function/BiFunction"), (.object "java/util/function/BiFunction"), (.object "java/util/function/BiFunction")]
  resolved := Array.replicate 194 none
  statics := some 2 }

def pool13 : Array CpInfo := pool [(9, u "<init>"), (6, .class_ 18), (1, u "java/lang/Object"), (0, u "()V"), (1, .class_ 23), (1, u "jdk/internal/util/ArraysSupport"), (0, u "LOG2_ARRAY_LONG_INDEX_SCALE"), (0, u "I"), (2, u "U"), (0, u "Ljdk/internal/misc/Unsafe;"), (8, u "BIG_ENDIAN"), (0, u "Z"), (8, u "LOG2_BYTE_BIT_SIZE"), (4, u "LOG2_ARRAY_INT_INDEX_SCALE"), (54, u "JLA"), (0, u "Ljdk/internal/access/JavaLangAccess;"), (11, u "LOG2_ARRAY_BOOLEAN_INDEX_SCALE"), (9, u "LOG2_ARRAY_BYTE_INDEX_SCALE"), (5, u "LOG2_ARRAY_CHAR_INDEX_SCALE"), (5, u "LOG2_ARRAY_SHORT_INDEX_SCALE"), (18, u "LOG2_ARRAY_FLOAT_INDEX_SCALE"), (24, u "LOG2_ARRAY_DOUBLE_INDEX_SCALE"), (89, u "T_BOOLEAN"), (2, u "T_CHAR"), (1, u "T_FLOAT"), (1, u "T_DOUBLE"), (1, u "T_BYTE"), (1, u "T_SHORT"), (1, u "T_INT"), (1, u "T_LONG"), (1, u "SOFT_MAX_ARRAY_LENGTH")] 83

def k13m0 : Method := { name := "<init>", desc := "()V", sig := { parameters := [], returnType := none }, accessFlags := 2, code := none }
/-- jdk/internal/util/ArraysSupport -/
def k13 : Class := { plain "jdk/internal/util/ArraysSupport" (some 0) with
  accessFlags := 33
  interfaces := #[]
  cf := some (fileOf pool13 21 #[] #[{ accessFlags := 2, nameIndex := 9, descriptorIndex := 19, attributes := #[] }] 33 16 #[] #[{ accessFlags := 24, nameIndex := 28, descriptorIndex := 29, attributes := #[] }, { accessFlags := 26, nameIndex := 38, descriptorIndex := 39, attributes := #[] }, { accessFlags := 25, nameIndex := 121, descriptorIndex := 25, attributes := #[] }, { accessFlags := 25, nameIndex := 131, descriptorIndex := 25, attributes := #[] }, { accessFlags := 25, nameIndex := 137, descriptorIndex := 25, attributes := #[] }, { accessFlags := 25, nameIndex := 143, descriptorIndex := 25, attributes := #[] }, { accessFlags := 25, nameIndex := 53, descriptorIndex := 25, attributes := #[] }, { accessFlags := 25, nameIndex := 24, descriptorIndex := 25, attributes := #[] }, { accessFlags := 25, nameIndex := 162, descriptorIndex := 25, attributes := #[] }, { accessFlags := 25, nameIndex := 187, descriptorIndex := 25, attributes := #[] }, { accessFlags := 26, nameIndex := 48, descriptorIndex := 25, attributes := #[] }, { accessFlags := 25, nameIndex := 277, descriptorIndex := 25, attributes := #[] }, { accessFlags := 25, nameIndex := 280, descriptorIndex := 25, attributes := #[] }, { accessFlags := 25, nameIndex := 282, descriptorIndex := 25, attributes := #[] }, { accessFlags := 25, nameIndex := 284, descriptorIndex := 25, attributes := #[] }, { accessFlags := 25, nameIndex := 286, descriptorIndex := 25, attributes := #[] }, { accessFlags := 25, nameIndex := 288, descriptorIndex := 25, attributes := #[] }, { accessFlags := 25, nameIndex := 290, descriptorIndex := 25, attributes := #[] }, { accessFlags := 25, nameIndex := 292, descriptorIndex := 25, attributes := #[] }, { accessFlags := 26, nameIndex := 108, descriptorIndex := 109, attributes := #[] }, { accessFlags := 25, nameIndex := 294, descriptorIndex := 25, attributes := #[] }])
  fields := #[{ name := "U", type := (.object "jdk/internal/misc/Unsafe"), accessFlags := 24, slot := 0, constantValue := 0 }, { name := "BIG_ENDIAN", type := .boolean, accessFlags := 26, slot := 1, constantValue := 0 }, { name := "LOG2_ARRAY_BOOLEAN_INDEX_SCALE", type := .int, accessFlags := 25, slot := 2, constantValue := 0 }, { name := "LOG2_ARRAY_BYTE_INDEX_SCALE", type := .int, accessFlags := 25, slot := 3, constantValue := 0 }, { name := "LOG2_ARRAY_CHAR_INDEX_SCALE", type := .int, accessFlags := 25, slot := 4, constantValue := 0 }, { name := "LOG2_ARRAY_SHORT_INDEX_SCALE", type := .int, accessFlags := 25, slot := 5, constantValue := 0 }, { name := "LOG2_ARRAY_INT_INDEX_SCALE", type := .int, accessFlags := 25, slot := 6, constantValue := 0 }, { name := "LOG2_ARRAY_LONG_INDEX_SCALE", type := .int, accessFlags := 25, slot := 7, constantValue := 0 }, { name := "LOG2_ARRAY_FLOAT_INDEX_SCALE", type := .int, accessFlags := 25, slot := 8, constantValue := 0 }, { name := "LOG2_ARRAY_DOUBLE_INDEX_SCALE", type := .int, accessFlags := 25, slot := 9, constantValue := 0 }, { name := "LOG2_BYTE_BIT_SIZE", type := .int, accessFlags := 26, slot := 10, constantValue := 0 }, { name := "T_BOOLEAN", type := .int, accessFlags := 25, slot := 11, constantValue := 0 }, { name := "T_CHAR", type := .int, accessFlags := 25, slot := 12, constantValue := 0 }, { name := "T_FLOAT", type := .int, accessFlags := 25, slot := 13, constantValue := 0 }, { name := "T_DOUBLE", type := .int, accessFlags := 25, slot := 14, constantValue := 0 }, { name := "T_BYTE", type := .int, accessFlags := 25, slot := 15, constantValue := 0 }, { name := "T_SHORT", type := .int, accessFlags := 25, slot := 16, constantValue := 0 }, { name := "T_INT", type := .int, accessFlags := 25, slot := 17, constantValue := 0 }, { name := "T_LONG", type := .int, accessFlags := 25, slot := 18, constantValue := 0 }, { name := "JLA", type := (.object "jdk/internal/access/JavaLangAccess"), accessFlags := 26, slot := 19, constantValue := 0 }, { name := "SOFT_MAX_ARRAY_LENGTH", type := .int, accessFlags := 25, slot := 20, constantValue := 0 }]
  methods := #[k13m0]
  instanceTypes := #[]
  staticTypes := #[(.object "jdk/internal/misc/Unsafe"), .boolean, .int, .int, .int, .int, .int, .int, .int, .int, .int, .int, .int, .int, .int, .int, .int, .int, .int, (.object "jdk/internal/access/JavaLangAccess"), .int]
  resolved := Array.replicate 378 none
  statics := none }

def pool14 : Array CpInfo := pool [(1, u "java/lang/Cloneable"), (0, .class_ 1), (0, u "java/lang/Object"), (0, .class_ 3)] 3

/-- java/lang/Cloneable -/
def k14 : Class := { plain "java/lang/Cloneable" (some 0) with
  accessFlags := 1537
  interfaces := #[]
  cf := some (fileOf pool14 2 #[] #[] 1537 4 #[] #[])
  fields := #[]
  methods := #[]
  instanceTypes := #[]
  staticTypes := #[]
  resolved := Array.replicate 8 none
  statics := none }

/-- the primitive byte -/
def k15 : Class := { plain "byte" none with kind := .primitive 'B', accessFlags := 0x411 }
/-- [B -/
def k16 : Class := { plain "[B" (some 0) with kind := .array 15 .byte, interfaces := #[14, 5], accessFlags := 1041 }

/-- the primitive int -/
def k17 : Class := { plain "int" none with kind := .primitive 'I', accessFlags := 0x411 }
/-- [I -/
def k18 : Class := { plain "[I" (some 0) with kind := .array 17 .int, interfaces := #[14, 5], accessFlags := 1041 }

def heap : Heap := #[{ cls := 7, slots := #[.ref 3, .ref 6, .ref 5, .ref 4, .null], vm := .statics 7 },
  { cls := 10, slots := #[.long 0, .int 1, .null, .int 0, .null, .int 0, .int 0], vm := .statics 10 },
  { cls := 12, slots := #[.null, .null, .null], vm := .statics 12 },
  { cls := 7, slots := #[.null, .int 0, .int 0, .int 0, .int 0], vm := .none },
  { cls := 7, slots := #[.null, .int 3, .int 0, .int 0, .int 0], vm := .none },
  { cls := 7, slots := #[.null, .int 2, .int 0, .int 0, .int 0], vm := .none },
  { cls := 7, slots := #[.null, .int 1, .int 0, .int 0, .int 0], vm := .none }]
def classes : Array Class := #[k0, k1, k2, k3, k4, k5, k6, k7, k8, k9, k10, k11, k12, k13, k14, k15, k16, k17, k18]
def interned : List (Array UInt16 × Addr) := []
def slotsUsed : Nat := 35
def theMethod : MethodId := ⟨1, 2⟩
def args0 : Array Value := #[.int 5, .int 7, .int 8, .long 9, .long 11, .int 3]
def aboutOver (below : List Frame) : State where
  vm := { classes := classes, interned := interned.toArray }
  heap := heap
  slotsUsed := slotsUsed
  threads := #[{ frames := .invoking theMethod args0 :: below }]
def below0 : List Frame := [.native { method := ⟨0, 0⟩, args := #[] }]
def about1 : State := aboutOver below0
def p0 : Program := .bare "" "" ""
def e0 : Env := launch0.env 0 0 0
theorem w_frames : about1.frames = Frame.invoking theMethod args0 :: below0 := rfl
set_option maxRecDepth 65536 in
theorem w_args : argsFit about1.vm theMethod args0 = true := by decide +kernel
set_option maxRecDepth 65536 in
theorem w_heap : heapFits about1 = true := by decide +kernel
set_option maxRecDepth 65536 in
theorem w_runnable : about1.curStatus? = some .runnable := by decide +kernel
set_option maxRecDepth 65536 in
theorem w_alone : about1.alone = true := by decide +kernel
set_option maxRecDepth 65536 in
theorem w_named : about1.methodNamed? x = some theMethod := by decide +kernel
set_option maxRecDepth 65536 in
theorem w_hears : about1.hears theMethod below0 = true := by decide +kernel
set_option maxRecDepth 65536 in
theorem w_ripe : about1.ripe theMethod args0 below0 = true := by decide +kernel
theorem w_running : about1.status = .running := rfl
set_option maxRecDepth 65536 in
theorem w_room : about1.hasRoom e0.platform room_1 = true :=
  launch0.hasRoom_least _ room_1 (by decide +kernel) (by decide +kernel) (by decide +kernel) (by decide +kernel) (by decide +kernel) (by decide +kernel)
theorem allAtoms_all (ts : List Jvm.Cond) (a : Array Jvm.Value) (st : Jvm.State) : (allAtoms ts).before a st = ts.all (fun c => c.before a st) := by
  induction ts with
  | nil => rfl
  | cons c t ih =>
    show (Jvm.Cond.and c (allAtoms t)).before a st = _
    rw [Jvm.Cond.before_and, ih, List.all_cons]
def words1 : List Jvm.Cond := Jvm.Cond.code x code maxLocals ret :: tables_1
/-- a 'code' word, met by the world's own term for the bytes: nothing is compared byte by byte -/
theorem code_word {y : MethodName} {bytes : ByteArray} {mx : Nat} {rt : Option FieldType} {a : Array Value} {s : State} {m : MethodId} {meth : Method} {c : Code} (h1 : s.methodNamed? y = some m) (h2 : s.vm.method? m = some meth) (h3 : meth.code = some c) (h4 : c.code = bytes)
    (h5 : (c.maxLocals == mx && c.exceptionTable.isEmpty && decide (c.maxStack ≤ mostOperands) && decide (meth.sig.returnType = rt) && !meth.locks && decide (parseMethodDescriptor y.desc = some meth.sig)) = true) : (Jvm.Cond.code y bytes mx rt).before a s = true := by
  simp only [Bool.and_eq_true, beq_iff_eq, Bool.not_eq_true', decide_eq_true_eq] at h5
  obtain ⟨⟨⟨⟨⟨g1, g2⟩, g3⟩, g4⟩, g5⟩, g6⟩ := h5
  simp [Cond.before, Cond.holds, Cond.value, h1, h2, h3, h4, g1, g2, g3, g4, g5, g6]
def isCode : Jvm.Cond → Bool
  | .code _ _ _ _ => true
  | _ => false
theorem all_split {L : List Jvm.Cond} {P : Jvm.Cond → Bool} (h1 : L.all (fun c => isCode c || P c) = true) (h2 : ∀ c ∈ L.filter isCode, P c = true) : L.all P = true := by
  refine List.all_eq_true.mpr fun c hc => ?_
  have h := List.all_eq_true.mp h1 c hc
  rcases Bool.eq_false_or_eq_true (isCode c) with hi | hi
  · exact h2 c (List.mem_filter.mpr ⟨hc, hi⟩)
  · simpa [hi] using h
set_option maxRecDepth 65536 in
theorem w_c0 : (Jvm.Cond.code x code maxLocals ret).before args0 about1 = true := code_word (m := ⟨1, 2⟩) (meth := k1m2) (c := k1c2) (by decide +kernel) rfl rfl rfl (by decide +kernel)
set_option maxRecDepth 65536 in
theorem w_c1 : (Jvm.Cond.code ({ cls := "com/example/deioces/deioces/MessageEqualsPinLaw", name := "kindOf", desc := "(I)Lcom/example/deioces/deioces/Message$Kind;" } : Jvm.MethodName) method_2_code (1 : Nat) (Option.some (Jvm.ClassFile.FieldType.object "com/example/deioces/deioces/Message$Kind"))).before args0 about1 = true := code_word (m := ⟨1, 1⟩) (meth := k1m1) (c := k1c1) (by decide +kernel) rfl rfl rfl (by decide +kernel)
set_option maxRecDepth 65536 in
theorem w_c2 : (Jvm.Cond.code ({ cls := "com/example/deioces/deioces/Message", name := "<init>", desc := "(Lcom/example/deioces/deioces/Message$Kind;IJZ)V" } : Jvm.MethodName) prog_30_method_1_code (6 : Nat) (Option.none : Option Jvm.ClassFile.FieldType)).before args0 about1 = true := code_word (m := ⟨2, 0⟩) (meth := k2m0) (c := k2c0) (by decide +kernel) rfl rfl rfl (by decide +kernel)
set_option maxRecDepth 65536 in
theorem w_c3 : (Jvm.Cond.code ({ cls := "java/lang/Object", name := "<init>", desc := "()V" } : Jvm.MethodName) object_method_1_code (1 : Nat) (Option.none : Option Jvm.ClassFile.FieldType)).before args0 about1 = true := code_word (m := ⟨0, 0⟩) (meth := k0m0) (c := k0c0) (by decide +kernel) rfl rfl rfl (by decide +kernel)
set_option maxRecDepth 65536 in
theorem w_c4 : (Jvm.Cond.code ({ cls := "com/example/deioces/deioces/Message", name := "equals", desc := "(Ljava/lang/Object;)Z" } : Jvm.MethodName) prog_30_method_10_code (3 : Nat) (Option.some Jvm.ClassFile.FieldType.boolean)).before args0 about1 = true := code_word (m := ⟨2, 1⟩) (meth := k2m1) (c := k2c1) (by decide +kernel) rfl rfl rfl (by decide +kernel)
set_option maxRecDepth 65536 in
theorem w_c5 : (Jvm.Cond.code ({ cls := "java/lang/String", name := "valueOf", desc := "(C)Ljava/lang/String;" } : Jvm.MethodName) jdk_42_method_139_code (1 : Nat) (Option.some (Jvm.ClassFile.FieldType.object "java/lang/String"))).before args0 about1 = true := code_word (m := ⟨10, 1⟩) (meth := k10m1) (c := k10c1) (by decide +kernel) rfl rfl rfl (by decide +kernel)
set_option maxRecDepth 65536 in
theorem w_c6 : (Jvm.Cond.code ({ cls := "java/lang/StringLatin1", name := "canEncode", desc := "(C)Z" } : Jvm.MethodName) jdk_43_method_3_code (1 : Nat) (Option.some Jvm.ClassFile.FieldType.boolean)).before args0 about1 = true := code_word (m := ⟨11, 1⟩) (meth := k11m1) (c := k11c1) (by decide +kernel) rfl rfl rfl (by decide +kernel)
set_option maxRecDepth 65536 in
theorem w_c7 : (Jvm.Cond.code ({ cls := "java/lang/StringLatin1", name := "toBytes", desc := "(C)[B" } : Jvm.MethodName) jdk_43_method_46_code (1 : Nat) (Option.some (Jvm.ClassFile.FieldType.array Jvm.ClassFile.FieldType.byte))).before args0 about1 = true := code_word (m := ⟨11, 2⟩) (meth := k11m2) (c := k11c2) (by decide +kernel) rfl rfl rfl (by decide +kernel)
set_option maxRecDepth 65536 in
theorem w_c8 : (Jvm.Cond.code ({ cls := "java/lang/String", name := "<init>", desc := "([BB)V" } : Jvm.MethodName) jdk_42_method_151_code (3 : Nat) (Option.none : Option Jvm.ClassFile.FieldType)).before args0 about1 = true := code_word (m := ⟨10, 2⟩) (meth := k10m2) (c := k10c2) (by decide +kernel) rfl rfl rfl (by decide +kernel)
def codes1 : List Jvm.Cond := [Jvm.Cond.code x code maxLocals ret, Jvm.Cond.code ({ cls := "com/example/deioces/deioces/MessageEqualsPinLaw", name := "kindOf", desc := "(I)Lcom/example/deioces/deioces/Message$Kind;" } : Jvm.MethodName) method_2_code (1 : Nat) (Option.some (Jvm.ClassFile.FieldType.object "com/example/deioces/deioces/Message$Kind")), Jvm.Cond.code ({ cls := "com/example/deioces/deioces/Message", name := "<init>", desc := "(Lcom/example/deioces/deioces/Message$Kind;IJZ)V" } : Jvm.MethodName) prog_30_method_1_code (6 : Nat) (Option.none : Option Jvm.ClassFile.FieldType), Jvm.Cond.code ({ cls := "java/lang/Object", name := "<init>", desc := "()V" } : Jvm.MethodName) object_method_1_code (1 : Nat) (Option.none : Option Jvm.ClassFile.FieldType), Jvm.Cond.code ({ cls := "com/example/deioces/deioces/Message", name := "equals", desc := "(Ljava/lang/Object;)Z" } : Jvm.MethodName) prog_30_method_10_code (3 : Nat) (Option.some Jvm.ClassFile.FieldType.boolean), Jvm.Cond.code ({ cls := "java/lang/String", name := "valueOf", desc := "(C)Ljava/lang/String;" } : Jvm.MethodName) jdk_42_method_139_code (1 : Nat) (Option.some (Jvm.ClassFile.FieldType.object "java/lang/String")), Jvm.Cond.code ({ cls := "java/lang/StringLatin1", name := "canEncode", desc := "(C)Z" } : Jvm.MethodName) jdk_43_method_3_code (1 : Nat) (Option.some Jvm.ClassFile.FieldType.boolean), Jvm.Cond.code ({ cls := "java/lang/StringLatin1", name := "toBytes", desc := "(C)[B" } : Jvm.MethodName) jdk_43_method_46_code (1 : Nat) (Option.some (Jvm.ClassFile.FieldType.array Jvm.ClassFile.FieldType.byte)), Jvm.Cond.code ({ cls := "java/lang/String", name := "<init>", desc := "([BB)V" } : Jvm.MethodName) jdk_42_method_151_code (3 : Nat) (Option.none : Option Jvm.ClassFile.FieldType)]
set_option maxRecDepth 65536 in
theorem codes_eq : words1.filter isCode = codes1 := rfl
theorem w_codes : ∀ c ∈ words1.filter isCode, c.before args0 about1 = true := by
  rw [codes_eq]
  intro c hc
  simp only [codes1, List.mem_cons, List.not_mem_nil, or_false] at hc
  rcases hc with rfl | rfl | rfl | rfl | rfl | rfl | rfl | rfl | rfl
  · exact w_c0
  · exact w_c1
  · exact w_c2
  · exact w_c3
  · exact w_c4
  · exact w_c5
  · exact w_c6
  · exact w_c7
  · exact w_c8
set_option maxRecDepth 65536 in
theorem w_t1 : (words1.take 24).all (fun c => isCode c || c.before args0 about1) = true := by decide +kernel
set_option maxRecDepth 65536 in
theorem w_t2 : ((words1.drop 24).take 24).all (fun c => isCode c || c.before args0 about1) = true := by decide +kernel
set_option maxRecDepth 65536 in
theorem w_t3 : ((words1.drop 24).drop 24).all (fun c => isCode c || c.before args0 about1) = true := by decide +kernel
theorem w_tables : (allAtoms (Jvm.Cond.code x code maxLocals ret :: tables_1)).before args0 about1 = true := by
  rw [allAtoms_all]
  show words1.all (fun c => c.before args0 about1) = true
  refine all_split ?_ w_codes
  rw [← List.take_append_drop 24 words1, List.all_append, w_t1, ← List.take_append_drop 24 (words1.drop 24), List.all_append, w_t2, w_t3]
  rfl
set_option maxRecDepth 65536 in
theorem w_rest : rest_1_c.before args0 about1 = true := by decide +kernel
set_option maxRecDepth 65536 in
theorem w_case : (Jvm.Cond.and given_1 narrow_1).before args0 about1 = true := by decide +kernel
theorem w_applies : (headSpec (Jvm.Cond.code x code maxLocals ret :: tables_1) room_1).applies x e0.platform about1 = true :=
  (Spec.applies_iff w_frames).mpr ⟨w_running, w_runnable, w_alone, w_named, w_hears, w_ripe, w_room, w_tables⟩
theorem atStart : AtStart classFile x code maxLocals ret World_1 tables_1 room_1 Calls_1 rest_1 Pre_1 launch0 p0 e0 about1 theMethod args0 below0 :=
  ⟨lists_1, trivial, launch0.admits_env _ _ _, launch0.least_env, fairChoices_fair.cas, fairChoices_fair.clock, w_frames, w_args, w_heap, w_applies, trivial, w_rest, w_case⟩
end start1
theorem witness_1 : WitnessClaimed_1 := ⟨start1.p0, start1.e0, start1.about1, start1.theMethod, start1.args0, start1.below0, start1.atStart⟩
end Jvm.Pilot.@@N@@

import JvmDerived
import JvmDerived.Pilot.@@N@@Statement
import JvmDerived.Pilot.@@N@@Code
set_option linter.unusedVariables false
set_option linter.unusedSimpArgs false
namespace Jvm.RoadKit
open Sem ClassFile Op Lib Jvm.Stand Jvm.Free Jvm.LawKit
section New
variable {p : Program} {l : Launch} {e : Env} {R : Room} {s : State} {m : MethodId} {args : Array Value} {below : List Frame} {meth : Method} {c : Code} {T : State} {locs : List Loc} {cells slots : Nat}
theorem retI (X : Stand p l e R s m args below meth c T locs cells slots) (hx : p.tables.exec = Jvm.exec) {pc : Nat} {Ls : Array Slot} {z : Int32} {rest : List Value} (hret : meth.sig.returnType = some .int) (hd : decode c.code pc = .ok (.ireturn, 1)) {fs : List Frame}
    (hl : ∀ (f : JFrame) (acts : List Action), f.method = m → f.locked = none → f.entered = [] → (doReturn e (T.setTop f) acts (some (.int z))).1 = T.setFrames fs) : Steps p.tables e below (T.setTop (mkF m pc Ls (.int z :: rest))) (T.setFrames fs) :=
  retOut X hx (t := .int) hret rfl (Or.inl ⟨rfl, Or.inl rfl, z, rfl⟩) hd hl
end New
end Jvm.RoadKit
namespace Jvm.Pilot.@@N@@
open Jvm Jvm.ClassFile Sem Op Lib Jvm.Free Jvm.Stand Jvm.LawKit Jvm.RoadKit Bundle Jvm.Pilot.@@N@@.Jvm.D
/-- the run from A on ends, and K holds of its end -/
def own_Fin (p : Program) (e : Env) (below : List Frame) (K : Outcome → State → Prop) (A : State) : Prop := ∃ t o, Steps p.tables e below A t ∧ t.status = .running ∧ Ended t below o ∧ K o t
theorem own_st {p : Program} {e : Env} {below : List Frame} {K : Outcome → State → Prop} {A B : State} (st : ∀ t, Steps p.tables e below B t → Steps p.tables e below A t) (h : own_Fin p e below K B) : own_Fin p e below K A := by
  obtain ⟨t, o, h1, h2⟩ := h
  exact ⟨t, o, st t h1, h2⟩
theorem own_tr {p : Program} {e : Env} {below : List Frame} {K : Outcome → State → Prop} {A B : State} (st : Steps p.tables e below A B) (h : own_Fin p e below K B) : own_Fin p e below K A := by
  obtain ⟨t, o, h1, h2⟩ := h
  exact ⟨t, o, st.trans h1, h2⟩
/-- what a body leaves that writes nothing: it returns r, the heap as it was -/
def own_Q (h0 : Heap) (n0 : Nat) (r : Option Value) (v : Option Value) (h : Heap) (L : List Loc) : Prop := v = r ∧ Fr n0 L ∧ h = h0
theorem own_eqI {args : Array Value} {s : State} {t : Term} {k : Int32} (h : (Jvm.Cond.eq t (.int k)).value args s none s [] = some true) : t.eval args s none [] s = some (.int k) := by
  cases ht : t.eval args s none [] s with
  | none => simp [Cond.value, ht] at h
  | some x => cases x <;> simp [Cond.value, ht, Term.eval] at h ⊢; exact h
theorem own_fld {args : Array Value} {s : State} {t : Term} {a : Addr} {C n d : String} {k : Int32} (ht : t.eval args s none [] s = some (.ref a)) (h : (Jvm.Cond.eq (.field t C n d) (.int k)).value args s none s [] = some true) : Fld s s.heap a C n d (.int k) :=
  Fld.start (by rw [← fld_at ht]; exact own_eqI h)
theorem own_fldR {args : Array Value} {s : State} {t u : Term} {a b : Addr} {C n d : String} (ht : t.eval args s none [] s = some (.ref a)) (hu : u.eval args s none [] s = some (.ref b)) (h : (Jvm.Cond.eq (.field t C n d) u).value args s none s [] = some true) : Fld s s.heap a C n d (.ref b) := by
  refine Fld.start ?_
  rw [← fld_at ht]
  cases he : (Term.field t C n d).eval args s none [] s with
  | none => simp [Cond.value, he] at h
  | some x => cases x <;> simp [Cond.value, he, hu] at h ⊢; exact h
theorem own_differ {args : Array Value} {s : State} {t u : Term} {a b : Addr} (ht : t.eval args s none [] s = some (.ref a)) (hu : u.eval args s none [] s = some (.ref b)) (h : (Jvm.Cond.not (.eq t u)).value args s none s [] = some true) : a ≠ b := by
  have h1 := not_v h
  have h2 := gotF (eq_R ht hu rfl rfl) h1
  exact fun e => h2 (congrArg Value.ref e)
theorem own_pick {r : Int32} {k : Int} (h : r.toInt = k) : r = Int32.ofInt k := by rw [← h, Int32.ofInt_toInt]
theorem own_staKeep {Z : State} {h h' : Heap} {C n d : String} {v : Value} {ws : List Addr} (F : Sta Z h C n d v) (K : Keep h h' ws) (q : ∀ x ∈ ws, ∀ c : Cell, h[x]? = some c → c.vm.isStatics = false) : Sta Z h' C n d v := by
  obtain ⟨cf, i, k, f, st, cell, h1, h2, h3, h4, h5, h6, h7⟩ := F
  refine ⟨cf, i, k, f, st, cell, h1, h2, h3, h4, K.2.1 st cell h5 (fun z => ?_), h6, h7⟩
  rw [q st z cell h5] at h6
  cases h6
theorem own_plain {Z : State} {h : Heap} {a : Addr} {C : String} (E : Exa Z h a C) : ∀ c : Cell, h[a]? = some c → c.vm.isStatics = false := fun c hc => by
  obtain ⟨c', k, h1, -, -, h4, -⟩ := E
  cases h1.symm.trans hc
  exact h4
theorem own_narZ {x : Int32} (h : x = 0 ∨ x = 1) : narrow .boolean (.int x) = .int x := by rcases h with rfl | rfl <;> rfl
theorem own_fitZ {x : Int32} (h : x = 0 ∨ x = 1) : fits .boolean (.int x) = true := by rcases h with rfl | rfl <;> rfl
/-- what the law's own walk leaves: it returns r and wrote nothing old -/
def own_Q0 (n0 : Nat) (r : Option Value) (v : Option Value) (h : Heap) (L : List Loc) : Prop := v = r ∧ Fr n0 L
/-- what the law's walk leaves, as one word -/
def own_K0 (s : State) (n0 : Nat) (o : Outcome) (U' : State) : Prop := ∃ v L, o = .returned v ∧ own_Q0 n0 (some (.int (1 : Int32))) v U'.heap L ∧ FrameEnd s o U' L room_1.cells room_1.slots
def own_Pins (Z : State) (h0 : Heap) (w_ELECTION : Addr) (w_RELEASE : Addr) (w_HEARTBEAT : Addr) (w_REPLY : Addr) : Prop := (Sta Z h0 "com/example/deioces/deioces/Message$Kind" "ELECTION" "Lcom/example/deioces/deioces/Message$Kind;" (.ref w_ELECTION)) ∧ (Exa Z h0 w_ELECTION "com/example/deioces/deioces/Message$Kind") ∧ (Sta Z h0 "com/example/deioces/deioces/Message$Kind" "RELEASE" "Lcom/example/deioces/deioces/Message$Kind;" (.ref w_RELEASE)) ∧ (Exa Z h0 w_RELEASE "com/example/deioces/deioces/Message$Kind") ∧ (Sta Z h0 "com/example/deioces/deioces/Message$Kind" "HEARTBEAT" "Lcom/example/deioces/deioces/Message$Kind;" (.ref w_HEARTBEAT)) ∧ (Exa Z h0 w_HEARTBEAT "com/example/deioces/deioces/Message$Kind") ∧ (Sta Z h0 "com/example/deioces/deioces/Message$Kind" "REPLY" "Lcom/example/deioces/deioces/Message$Kind;" (.ref w_REPLY)) ∧ (Exa Z h0 w_REPLY "com/example/deioces/deioces/Message$Kind")
theorem own_mask4 (p : Int32) : (p &&& (3 : Int32)) = (0 : Int32) ∨ (p &&& (3 : Int32)) = (1 : Int32) ∨ (p &&& (3 : Int32)) = (2 : Int32) ∨ (p &&& (3 : Int32)) = (3 : Int32) := by
  have h2 := c_mask p (3 : Int32) 2 (by decide) rfl
  generalize (p &&& (3 : Int32)) = r at h2 ⊢
  have h3 : r.toInt = p.toInt % 4 := h2
  rcases (by omega : r.toInt = 0 ∨ r.toInt = 1 ∨ r.toInt = 2 ∨ r.toInt = 3) with h | h | h | h
  · exact Or.inl (own_pick h)
  · exact Or.inr (Or.inl (own_pick h))
  · exact Or.inr (Or.inr (Or.inl (own_pick h)))
  · exact Or.inr (Or.inr (Or.inr ((own_pick h))))
theorem d1_0 : decode method_2_code 0 = .ok (.iload_n 0, 1) := by decide +kernel
theorem d1_1 : decode method_2_code 1 = .ok (.iconst 3, 1) := by decide +kernel
theorem d1_2 : decode method_2_code 2 = .ok (.iand, 1) := by decide +kernel
theorem d1_3 : decode method_2_code 3 = .ok (.istore 4, 2) := by decide +kernel
theorem d1_5 : decode method_2_code 5 = .ok (.iload 4, 2) := by decide +kernel
theorem d1_7 : decode method_2_code 7 = .ok (.ifCond .ne 9, 3) := by decide +kernel
theorem d1_10 : decode method_2_code 10 = .ok (.iload_n 1, 1) := by decide +kernel
theorem d1_11 : decode method_2_code 11 = .ok (.lload_n 2, 1) := by decide +kernel
theorem d1_12 : decode method_2_code 12 = .ok (.invokestatic 7, 3) := by decide +kernel
theorem d2_0 : decode prog_31_method_2_code 0 = .ok (.new 8, 3) := by decide +kernel
theorem d2_3 : decode prog_31_method_2_code 3 = .ok (.dup, 1) := by decide +kernel
theorem d2_4 : decode prog_31_method_2_code 4 = .ok (.getstatic 25, 3) := by decide +kernel
theorem d2_7 : decode prog_31_method_2_code 7 = .ok (.iload_n 0, 1) := by decide +kernel
theorem d2_8 : decode prog_31_method_2_code 8 = .ok (.lload_n 1, 1) := by decide +kernel
theorem d2_9 : decode prog_31_method_2_code 9 = .ok (.iconst 0, 1) := by decide +kernel
theorem d2_10 : decode prog_31_method_2_code 10 = .ok (.invokespecial 30, 3) := by decide +kernel
theorem d3_0 : decode prog_31_method_1_code 0 = .ok (.aload_n 0, 1) := by decide +kernel
theorem d3_1 : decode prog_31_method_1_code 1 = .ok (.invokespecial 1, 3) := by decide +kernel
theorem d3_4 : decode prog_31_method_1_code 4 = .ok (.aload_n 0, 1) := by decide +kernel
theorem d3_5 : decode prog_31_method_1_code 5 = .ok (.aload_n 1, 1) := by decide +kernel
theorem d3_6 : decode prog_31_method_1_code 6 = .ok (.putfield 7, 3) := by decide +kernel
theorem d3_9 : decode prog_31_method_1_code 9 = .ok (.aload_n 0, 1) := by decide +kernel
theorem d3_10 : decode prog_31_method_1_code 10 = .ok (.iload_n 2, 1) := by decide +kernel
theorem d3_11 : decode prog_31_method_1_code 11 = .ok (.putfield 13, 3) := by decide +kernel
theorem d3_14 : decode prog_31_method_1_code 14 = .ok (.aload_n 0, 1) := by decide +kernel
theorem d3_15 : decode prog_31_method_1_code 15 = .ok (.lload_n 3, 1) := by decide +kernel
theorem d3_16 : decode prog_31_method_1_code 16 = .ok (.putfield 17, 3) := by decide +kernel
theorem d3_19 : decode prog_31_method_1_code 19 = .ok (.aload_n 0, 1) := by decide +kernel
theorem d3_20 : decode prog_31_method_1_code 20 = .ok (.iload 5, 2) := by decide +kernel
theorem d3_22 : decode prog_31_method_1_code 22 = .ok (.putfield 21, 3) := by decide +kernel
theorem d3_25 : decode prog_31_method_1_code 25 = .ok (.return_, 1) := by decide +kernel
theorem ef_3_RRIJI (m : MethodId) (x0 : Addr) (x1 : Addr) (x2 : Int32) (x3 : Int64) (x4 : Int32) : entryFrame m #[(.ref x0), (.ref x1), (.int x2), (.long x3), (.int x4)] 6 = mkF m 0 #[.val (.ref x0), .val (.ref x1), .val (.int x2), .val (.long x3), .second, .val (.int x4)] [] := by first | (simp [entryFrame, mkF, argsToLocals, Value.category]; done) | rfl
theorem pn_com_example_deioces_deioces_Message : plainName "com/example/deioces/deioces/Message" = true := by first | (simp [plainName, overriddenIn]; done) | decide +kernel
def Q3_1 (Z : State) (a1 : Addr) (a2 : Addr) (i3 : Int32) (j4 : Int64) (h0 : Heap) (n0 : Nat) (v : Option Value) (h : Heap) (L : List Loc) : Prop := v = none ∧ Fr n0 L ∧ Keep h0 h [a1] ∧ Fld Z h a1 "com/example/deioces/deioces/Message" "kind" "Lcom/example/deioces/deioces/Message$Kind;" (.ref a2) ∧ Fld Z h a1 "com/example/deioces/deioces/Message" "sender" "I" (.int i3) ∧ Fld Z h a1 "com/example/deioces/deioces/Message" "stamp" "J" (.long j4) ∧ Fld Z h a1 "com/example/deioces/deioces/Message" "supportive" "Z" (.int (0 : Int32))
set_option maxRecDepth 65536 in
set_option maxHeartbeats 40000000 in
theorem rm3_1 (l : Launch) (Z : State) (a0 : Array Value) (hw : ∀ d ∈ tables_1, d.before a0 Z = true) (ws : List Jvm.Cond) (a1 : Addr) (a2 : Addr) (i3 : Int32) (j4 : Int64) (h0 : Heap) (n0 : Nat) (Z0 : n0 ≤ Array.size h0) (P0 : Fld Z h0 a1 "com/example/deioces/deioces/Message" "kind" "Lcom/example/deioces/deioces/Message$Kind;" .null) (P1 : Exa Z h0 a1 "com/example/deioces/deioces/Message") (P2 : n0 ≤ a1) (P3 : Fld Z h0 a1 "com/example/deioces/deioces/Message" "sender" "I" (.int (0 : Int32))) (P4 : Fld Z h0 a1 "com/example/deioces/deioces/Message" "stamp" "J" (.long (0 : Int64))) (P5 : Fld Z h0 a1 "com/example/deioces/deioces/Message" "supportive" "Z" (.int (0 : Int32))) :
    MetFree l (⟨"com/example/deioces/deioces/Message", "<init>", "(Lcom/example/deioces/deioces/Message$Kind;IJZ)V"⟩ : MethodName) (head1 (Jvm.Cond.code (⟨"com/example/deioces/deioces/Message", "<init>", "(Lcom/example/deioces/deioces/Message$Kind;IJZ)V"⟩ : MethodName) prog_31_method_1_code 6 none :: ws) ({ frames := 1, cells := 0, slots := 0, locals := 12 } : Room)) (fun a U => a = #[(.ref a1), (.ref a2), (.int i3), (.long j4), (.int (0 : Int32))] ∧ Z.Warmed39 U.vm ∧ U.heap = h0) (fun _ _ _ _ _ => True) (fun _ U o U' => ∃ v L, o = .returned v ∧ Q3_1 Z a1 a2 i3 j4 h0 n0 v U'.heap L ∧ FrameEnd U o U' L ({ frames := 1, cells := 0, slots := 0, locals := 12 } : Room).cells ({ frames := 1, cells := 0, slots := 0, locals := 12 } : Room).slots) := by
  refine MetFree.of_bodySF (plainFor_of_name pn_com_example_deioces_deioces_Message) hisR ?_
  intro p e s m args below meth c s₁ Bd hml0 hP hK
  obtain ⟨rfl, hZ, hh⟩ := hP
  have hx := Bd.exec
  have hby := Bd.bytes
  have hml : c.maxLocals = 6 := hml0
  have hown : s.vm.findClass "com/example/deioces/deioces/Message" = some m.cls := findClass_of_methodNamed Bd.named
  have hnm := (name_of_methodNamed Bd.named Bd.method).1
  have X0 : Stand p l e ({ frames := 1, cells := 0, slots := 0, locals := 12 } : Room) s m #[(.ref a1), (.ref a2), (.int i3), (.long j4), (.int (0 : Int32))] below meth c s₁ [] 0 0 := Stand.of_body Bd
  have e0 : s₁.heap = h0 := by rw [← hh, Bd.state]; rfl
  have N0 := Fr.nil n0
  refine (?_ : own_Fin p e below _ _)
  refine own_st (fun t k => castTop (ef_3_RRIJI m a1 a2 i3 j4 (0 : Int32)) k) ?_
  show own_Fin p e below _ (s₁.setTop (mkF m 0 #[.val (.ref a1), .val (.ref a2), .val (.int i3), .val (.long j4), .second, .val (.int (0 : Int32))] []))
  refine own_st (fun t k => XS.aloadN X0.here hx rfl (hb hby d3_0) rfl rfl k) ?_
  show own_Fin p e below _ (s₁.setTop (mkF m 1 #[.val (.ref a1), .val (.ref a2), .val (.int i3), .val (.long j4), .second, .val (.int (0 : Int32))] [(.ref a1)]))
  obtain ⟨T1, X1, e1, st1⟩ := initO X0 hx hZ hown (hw _ (List.mem_of_getElem? (i := 17) rfl)) (hw _ (List.mem_of_getElem? (i := 18) rfl)) (hw _ (List.mem_of_getElem? (i := 19) rfl)) e0 (g := (mkF m 1 #[.val (.ref a1), .val (.ref a2), .val (.int i3), .val (.long j4), .second, .val (.int (0 : Int32))] [(.ref a1)])) rfl (by rw [hml]; rfl) rfl (hb hby d3_1) (by decide) (W := 0) (by show 2 * 0 + _ ≤ _; exact Nat.le_of_eq rfl) (by decide)
  refine own_st st1 ?_
  show own_Fin p e below _ (T1.setTop (mkF m 4 #[.val (.ref a1), .val (.ref a2), .val (.int i3), .val (.long j4), .second, .val (.int (0 : Int32))] []))
  refine own_st (fun t k => XS.aloadN X1.here hx rfl (hb hby d3_4) rfl rfl k) ?_
  show own_Fin p e below _ (T1.setTop (mkF m 5 #[.val (.ref a1), .val (.ref a2), .val (.int i3), .val (.long j4), .second, .val (.int (0 : Int32))] [(.ref a1)]))
  refine own_st (fun t k => XS.aloadN X1.here hx rfl (hb hby d3_5) rfl rfl k) ?_
  show own_Fin p e below _ (T1.setTop (mkF m 6 #[.val (.ref a1), .val (.ref a2), .val (.int i3), .val (.long j4), .second, .val (.int (0 : Int32))] [(.ref a2), (.ref a1)]))
  obtain ⟨T2, h2, X2, e2, W2, st2⟩ := putF X1 hx hZ hown (host := "") (Or.inl (hw _ (List.mem_of_getElem? (i := 20) rfl))) Via.refl e1 P0 P1 (Or.inr ⟨(hw _ (List.mem_of_getElem? (i := 21) rfl)), rfl, hnm⟩) (hw _ (List.mem_of_getElem? (i := 10) rfl)) (ty := (.object "com/example/deioces/deioces/Message$Kind")) (by decide) rfl rfl (g := (mkF m 6 #[.val (.ref a1), .val (.ref a2), .val (.int i3), .val (.long j4), .second, .val (.int (0 : Int32))] [(.ref a2), (.ref a1)])) rfl rfl (hb hby d3_6)
  have F2 : Fld Z h2 a1 "com/example/deioces/deioces/Message" "kind" "Lcom/example/deioces/deioces/Message$Kind;" (.ref a2) := P0.same W2
  have N2 := Fr.snoc X2 N0 P2
  have Z3 : n0 ≤ Array.size h2 := Nat.le_trans Z0 (Keep.of_wr W2).1
  have KC3 : Keep h0 h2 [a1] := (Keep.refl h0 [a1]).wr W2 (Or.inl (List.mem_of_getElem? (i := 0) rfl))
  refine own_st st2 ?_
  show own_Fin p e below _ (T2.setTop (mkF m 9 #[.val (.ref a1), .val (.ref a2), .val (.int i3), .val (.long j4), .second, .val (.int (0 : Int32))] []))
  refine own_st (fun t k => XS.aloadN X2.here hx rfl (hb hby d3_9) rfl rfl k) ?_
  show own_Fin p e below _ (T2.setTop (mkF m 10 #[.val (.ref a1), .val (.ref a2), .val (.int i3), .val (.long j4), .second, .val (.int (0 : Int32))] [(.ref a1)]))
  refine own_st (fun t k => XS.iloadN X2.here hx rfl (hb hby d3_10) rfl k) ?_
  show own_Fin p e below _ (T2.setTop (mkF m 11 #[.val (.ref a1), .val (.ref a2), .val (.int i3), .val (.long j4), .second, .val (.int (0 : Int32))] [(.int i3), (.ref a1)]))
  have F4 : Fld Z h2 a1 "com/example/deioces/deioces/Message" "sender" "I" (.int (0 : Int32)) := (P3.other W2 (Or.inr (slot_ne (Or.inr (hw _ (List.mem_of_getElem? (i := 23) rfl))) (Or.inr (hw _ (List.mem_of_getElem? (i := 21) rfl))) (by decide) (t := .int) (t' := (.object "com/example/deioces/deioces/Message$Kind")) (by decide) (by decide))))
  have F5 : Exa Z h2 a1 "com/example/deioces/deioces/Message" := (P1.wr W2)
  obtain ⟨T6, h6, X6, e6, W6, st6⟩ := putF X2 hx hZ hown (host := "") (Or.inl (hw _ (List.mem_of_getElem? (i := 22) rfl))) Via.refl e2 F4 F5 (Or.inr ⟨(hw _ (List.mem_of_getElem? (i := 23) rfl)), rfl, hnm⟩) (hw _ (List.mem_of_getElem? (i := 10) rfl)) (ty := .int) (by decide) rfl rfl (g := (mkF m 11 #[.val (.ref a1), .val (.ref a2), .val (.int i3), .val (.long j4), .second, .val (.int (0 : Int32))] [(.int i3), (.ref a1)])) rfl rfl (hb hby d3_11)
  have F6 : Fld Z h6 a1 "com/example/deioces/deioces/Message" "sender" "I" (.int i3) := F4.same W6
  have N6 := Fr.snoc X6 N2 P2
  have Z7 : n0 ≤ Array.size h6 := Nat.le_trans Z3 (Keep.of_wr W6).1
  have KC7 : Keep h0 h6 [a1] := KC3.wr W6 (Or.inl (List.mem_of_getElem? (i := 0) rfl))
  refine own_st st6 ?_
  show own_Fin p e below _ (T6.setTop (mkF m 14 #[.val (.ref a1), .val (.ref a2), .val (.int i3), .val (.long j4), .second, .val (.int (0 : Int32))] []))
  refine own_st (fun t k => XS.aloadN X6.here hx rfl (hb hby d3_14) rfl rfl k) ?_
  show own_Fin p e below _ (T6.setTop (mkF m 15 #[.val (.ref a1), .val (.ref a2), .val (.int i3), .val (.long j4), .second, .val (.int (0 : Int32))] [(.ref a1)]))
  refine own_st (fun t k => XS.lloadN X6.here hx rfl (hb hby d3_15) rfl k) ?_
  show own_Fin p e below _ (T6.setTop (mkF m 16 #[.val (.ref a1), .val (.ref a2), .val (.int i3), .val (.long j4), .second, .val (.int (0 : Int32))] [(.long j4), (.ref a1)]))
  have F8 : Fld Z h6 a1 "com/example/deioces/deioces/Message" "stamp" "J" (.long (0 : Int64)) := ((P4.other W2 (Or.inr (slot_ne (Or.inr (hw _ (List.mem_of_getElem? (i := 25) rfl))) (Or.inr (hw _ (List.mem_of_getElem? (i := 21) rfl))) (by decide) (t := .long) (t' := (.object "com/example/deioces/deioces/Message$Kind")) (by decide) (by decide)))).other W6 (Or.inr (slot_ne (Or.inr (hw _ (List.mem_of_getElem? (i := 25) rfl))) (Or.inr (hw _ (List.mem_of_getElem? (i := 23) rfl))) (by decide) (t := .long) (t' := .int) (by decide) (by decide))))
  have F9 : Exa Z h6 a1 "com/example/deioces/deioces/Message" := (F5.wr W6)
  obtain ⟨T10, h10, X10, e10, W10, st10⟩ := putF X6 hx hZ hown (host := "") (Or.inl (hw _ (List.mem_of_getElem? (i := 24) rfl))) Via.refl e6 F8 F9 (Or.inr ⟨(hw _ (List.mem_of_getElem? (i := 25) rfl)), rfl, hnm⟩) (hw _ (List.mem_of_getElem? (i := 10) rfl)) (ty := .long) (by decide) rfl rfl (g := (mkF m 16 #[.val (.ref a1), .val (.ref a2), .val (.int i3), .val (.long j4), .second, .val (.int (0 : Int32))] [(.long j4), (.ref a1)])) rfl rfl (hb hby d3_16)
  have F10 : Fld Z h10 a1 "com/example/deioces/deioces/Message" "stamp" "J" (.long j4) := F8.same W10
  have N10 := Fr.snoc X10 N6 P2
  have Z11 : n0 ≤ Array.size h10 := Nat.le_trans Z7 (Keep.of_wr W10).1
  have KC11 : Keep h0 h10 [a1] := KC7.wr W10 (Or.inl (List.mem_of_getElem? (i := 0) rfl))
  refine own_st st10 ?_
  show own_Fin p e below _ (T10.setTop (mkF m 19 #[.val (.ref a1), .val (.ref a2), .val (.int i3), .val (.long j4), .second, .val (.int (0 : Int32))] []))
  refine own_st (fun t k => XS.aloadN X10.here hx rfl (hb hby d3_19) rfl rfl k) ?_
  show own_Fin p e below _ (T10.setTop (mkF m 20 #[.val (.ref a1), .val (.ref a2), .val (.int i3), .val (.long j4), .second, .val (.int (0 : Int32))] [(.ref a1)]))
  refine own_st (fun t k => XS.iload X10.here hx rfl (hb hby d3_20) rfl k) ?_
  show own_Fin p e below _ (T10.setTop (mkF m 22 #[.val (.ref a1), .val (.ref a2), .val (.int i3), .val (.long j4), .second, .val (.int (0 : Int32))] [(.int (0 : Int32)), (.ref a1)]))
  have F12 : Fld Z h10 a1 "com/example/deioces/deioces/Message" "supportive" "Z" (.int (0 : Int32)) := (((P5.other W2 (Or.inr (slot_ne (Or.inr (hw _ (List.mem_of_getElem? (i := 27) rfl))) (Or.inr (hw _ (List.mem_of_getElem? (i := 21) rfl))) (by decide) (t := .boolean) (t' := (.object "com/example/deioces/deioces/Message$Kind")) (by decide) (by decide)))).other W6 (Or.inr (slot_ne (Or.inr (hw _ (List.mem_of_getElem? (i := 27) rfl))) (Or.inr (hw _ (List.mem_of_getElem? (i := 23) rfl))) (by decide) (t := .boolean) (t' := .int) (by decide) (by decide)))).other W10 (Or.inr (slot_ne (Or.inr (hw _ (List.mem_of_getElem? (i := 27) rfl))) (Or.inr (hw _ (List.mem_of_getElem? (i := 25) rfl))) (by decide) (t := .boolean) (t' := .long) (by decide) (by decide))))
  have F13 : Exa Z h10 a1 "com/example/deioces/deioces/Message" := (F9.wr W10)
  obtain ⟨T14, h14, X14, e14, W14, st14⟩ := putF X10 hx hZ hown (host := "") (Or.inl (hw _ (List.mem_of_getElem? (i := 26) rfl))) Via.refl e10 F12 F13 (Or.inr ⟨(hw _ (List.mem_of_getElem? (i := 27) rfl)), rfl, hnm⟩) (hw _ (List.mem_of_getElem? (i := 10) rfl)) (ty := .boolean) (by decide) rfl rfl (g := (mkF m 22 #[.val (.ref a1), .val (.ref a2), .val (.int i3), .val (.long j4), .second, .val (.int (0 : Int32))] [(.int (0 : Int32)), (.ref a1)])) rfl rfl (hb hby d3_22)
  have F14 : Fld Z h14 a1 "com/example/deioces/deioces/Message" "supportive" "Z" (.int (0 : Int32)) := F12.same W14
  have N14 := Fr.snoc X14 N10 P2
  have Z15 : n0 ≤ Array.size h14 := Nat.le_trans Z11 (Keep.of_wr W14).1
  have KC15 : Keep h0 h14 [a1] := KC11.wr W14 (Or.inl (List.mem_of_getElem? (i := 0) rfl))
  refine own_st st14 ?_
  show own_Fin p e below _ (T14.setTop (mkF m 25 #[.val (.ref a1), .val (.ref a2), .val (.int i3), .val (.long j4), .second, .val (.int (0 : Int32))] []))
  have F16 : Fld Z h14 a1 "com/example/deioces/deioces/Message" "kind" "Lcom/example/deioces/deioces/Message$Kind;" (.ref a2) := (((F2.other W6 (Or.inr (slot_ne (Or.inr (hw _ (List.mem_of_getElem? (i := 21) rfl))) (Or.inr (hw _ (List.mem_of_getElem? (i := 23) rfl))) (by decide) (t := (.object "com/example/deioces/deioces/Message$Kind")) (t' := .int) (by decide) (by decide)))).other W10 (Or.inr (slot_ne (Or.inr (hw _ (List.mem_of_getElem? (i := 21) rfl))) (Or.inr (hw _ (List.mem_of_getElem? (i := 25) rfl))) (by decide) (t := (.object "com/example/deioces/deioces/Message$Kind")) (t' := .long) (by decide) (by decide)))).other W14 (Or.inr (slot_ne (Or.inr (hw _ (List.mem_of_getElem? (i := 21) rfl))) (Or.inr (hw _ (List.mem_of_getElem? (i := 27) rfl))) (by decide) (t := (.object "com/example/deioces/deioces/Message$Kind")) (t' := .boolean) (by decide) (by decide))))
  have F17 : Fld Z h14 a1 "com/example/deioces/deioces/Message" "sender" "I" (.int i3) := ((F6.other W10 (Or.inr (slot_ne (Or.inr (hw _ (List.mem_of_getElem? (i := 23) rfl))) (Or.inr (hw _ (List.mem_of_getElem? (i := 25) rfl))) (by decide) (t := .int) (t' := .long) (by decide) (by decide)))).other W14 (Or.inr (slot_ne (Or.inr (hw _ (List.mem_of_getElem? (i := 23) rfl))) (Or.inr (hw _ (List.mem_of_getElem? (i := 27) rfl))) (by decide) (t := .int) (t' := .boolean) (by decide) (by decide))))
  have F18 : Fld Z h14 a1 "com/example/deioces/deioces/Message" "stamp" "J" (.long j4) := (F10.other W14 (Or.inr (slot_ne (Or.inr (hw _ (List.mem_of_getElem? (i := 25) rfl))) (Or.inr (hw _ (List.mem_of_getElem? (i := 27) rfl))) (by decide) (t := .long) (t' := .boolean) (by decide) (by decide))))
  obtain ⟨fs, hr, hrun, hended, hW, hsame⟩ := X14.leave (v := none) (fun _ => rfl)
  have hQf : Q3_1 Z a1 a2 i3 j4 h0 n0 _ h14 _ := ⟨rfl, N14, KC15, F16, F17, F18, F14⟩
  exact ⟨_, _, X14.returnOut hx Bd.returns (hb hby d3_25) hr, hrun, hended, _, _, rfl, (by show Q3_1 Z a1 a2 i3 j4 h0 n0 _ T14.heap _; rw [e14]; exact hQf), ⟨_, rfl⟩, hW, hsame.mono (by decide) (by decide)⟩
theorem pd__Lcom_example_deioces_deioces_Message_Kind_IJZ_V : parseMethodDescriptor "(Lcom/example/deioces/deioces/Message$Kind;IJZ)V" = some ⟨[(.object "com/example/deioces/deioces/Message$Kind"), .int, .long, .boolean], none⟩ := by decide +kernel
theorem d2_13 : decode prog_31_method_2_code 13 = .ok (.areturn, 1) := by decide +kernel
theorem ef_2_IJ (m : MethodId) (x0 : Int32) (x1 : Int64) : entryFrame m #[(.int x0), (.long x1)] 3 = mkF m 0 #[.val (.int x0), .val (.long x1), .second] [] := by first | (simp [entryFrame, mkF, argsToLocals, Value.category]; done) | rfl
def Q2_2 (Z : State) (i1 : Int32) (j2 : Int64) (a3 : Addr) (h0 : Heap) (n0 : Nat) (v : Option Value) (h : Heap) (L : List Loc) : Prop := ∃ b1 : Addr, v = some (.ref b1) ∧ Fr n0 L ∧ Keep h0 h [] ∧ Array.size h0 ≤ b1 ∧ Exa Z h b1 "com/example/deioces/deioces/Message" ∧ Fld Z h b1 "com/example/deioces/deioces/Message" "kind" "Lcom/example/deioces/deioces/Message$Kind;" (.ref a3) ∧ Fld Z h b1 "com/example/deioces/deioces/Message" "sender" "I" (.int i1) ∧ Fld Z h b1 "com/example/deioces/deioces/Message" "stamp" "J" (.long j2) ∧ Fld Z h b1 "com/example/deioces/deioces/Message" "supportive" "Z" (.int (0 : Int32))
set_option maxRecDepth 65536 in
set_option maxHeartbeats 40000000 in
theorem rm2_2 (l : Launch) (Z : State) (a0 : Array Value) (hw : ∀ d ∈ tables_1, d.before a0 Z = true) (ws : List Jvm.Cond) (i1 : Int32) (j2 : Int64) (a3 : Addr) (h0 : Heap) (n0 : Nat) (Z0 : n0 ≤ Array.size h0) (P0 : Sta Z h0 "com/example/deioces/deioces/Message$Kind" "ELECTION" "Lcom/example/deioces/deioces/Message$Kind;" (.ref a3)) :
    MetFree l (⟨"com/example/deioces/deioces/Message", "election", "(IJ)Lcom/example/deioces/deioces/Message;"⟩ : MethodName) (head1 (Jvm.Cond.code (⟨"com/example/deioces/deioces/Message", "election", "(IJ)Lcom/example/deioces/deioces/Message;"⟩ : MethodName) prog_31_method_2_code 3 (some (.object "com/example/deioces/deioces/Message")) :: ws) ({ frames := 2, cells := 1, slots := 4, locals := 30 } : Room)) (fun a U => a = #[(.int i1), (.long j2)] ∧ Z.Warmed39 U.vm ∧ U.heap = h0) (fun _ _ _ _ _ => True) (fun _ U o U' => ∃ v L, o = .returned v ∧ Q2_2 Z i1 j2 a3 h0 n0 v U'.heap L ∧ FrameEnd U o U' L ({ frames := 2, cells := 1, slots := 4, locals := 30 } : Room).cells ({ frames := 2, cells := 1, slots := 4, locals := 30 } : Room).slots) := by
  refine MetFree.of_bodySF (plainFor_of_name pn_com_example_deioces_deioces_Message) hisR ?_
  intro p e s m args below meth c s₁ Bd hml0 hP hK
  obtain ⟨rfl, hZ, hh⟩ := hP
  have hx := Bd.exec
  have hby := Bd.bytes
  have hml : c.maxLocals = 3 := hml0
  have hown : s.vm.findClass "com/example/deioces/deioces/Message" = some m.cls := findClass_of_methodNamed Bd.named
  have hnm := (name_of_methodNamed Bd.named Bd.method).1
  have X0 : Stand p l e ({ frames := 2, cells := 1, slots := 4, locals := 30 } : Room) s m #[(.int i1), (.long j2)] below meth c s₁ [] 0 0 := Stand.of_body Bd
  have e0 : s₁.heap = h0 := by rw [← hh, Bd.state]; rfl
  have N0 := Fr.nil n0
  refine (?_ : own_Fin p e below _ _)
  refine own_st (fun t k => castTop (ef_2_IJ m i1 j2) k) ?_
  show own_Fin p e below _ (s₁.setTop (mkF m 0 #[.val (.int i1), .val (.long j2), .second] []))
  obtain ⟨T1, h1, X1, e1, E1, A1, D1, -, st1⟩ := newO X0 hx hZ hown (hw _ (List.mem_of_getElem? (i := 9) rfl)) (hw _ (List.mem_of_getElem? (i := 10) rfl)) (hw _ (List.mem_of_getElem? (i := 7) rfl)) e0 (g := (mkF m 0 #[.val (.int i1), .val (.long j2), .second] [])) rfl (hb hby d2_0) (by decide) (by decide)
  obtain ⟨b1, g1⟩ : ∃ z, z = Array.size h0 := ⟨_, rfl⟩
  rw [show Array.size h0 = b1 from g1.symm] at A1 D1 st1
  have le_b1 : Array.size h0 ≤ b1 := Nat.le_of_eq g1.symm
  have sz_b1 : h0.size ≤ b1 := Nat.le_trans (Keep.refl h0 []).1 le_b1
  have g_b1 : n0 ≤ b1 := Nat.le_trans Z0 sz_b1
  have Z2 : n0 ≤ Array.size h1 := Nat.le_trans Z0 E1.1
  have KC2 : Keep h0 h1 [] := (Keep.refl h0 []).ext E1
  have F1_21 : Fld Z h1 b1 "com/example/deioces/deioces/Message" "kind" "Lcom/example/deioces/deioces/Message$Kind;" .null := D1 (Or.inr (hw _ (List.mem_of_getElem? (i := 21) rfl))) (ty := (.object "com/example/deioces/deioces/Message$Kind")) (by decide)
  have F1_23 : Fld Z h1 b1 "com/example/deioces/deioces/Message" "sender" "I" (.int (0 : Int32)) := D1 (Or.inr (hw _ (List.mem_of_getElem? (i := 23) rfl))) (ty := .int) (by decide)
  have F1_25 : Fld Z h1 b1 "com/example/deioces/deioces/Message" "stamp" "J" (.long (0 : Int64)) := D1 (Or.inr (hw _ (List.mem_of_getElem? (i := 25) rfl))) (ty := .long) (by decide)
  have F1_27 : Fld Z h1 b1 "com/example/deioces/deioces/Message" "supportive" "Z" (.int (0 : Int32)) := D1 (Or.inr (hw _ (List.mem_of_getElem? (i := 27) rfl))) (ty := .boolean) (by decide)
  refine own_st st1 ?_
  show own_Fin p e below _ (T1.setTop (mkF m 3 #[.val (.int i1), .val (.long j2), .second] [(.ref b1)]))
  refine own_st (fun t k => XS.dup X1.here hx rfl (hb hby d2_3) rfl rfl k) ?_
  show own_Fin p e below _ (T1.setTop (mkF m 4 #[.val (.int i1), .val (.long j2), .second] [(.ref b1), (.ref b1)]))
  have F3 : Sta Z h1 "com/example/deioces/deioces/Message$Kind" "ELECTION" "Lcom/example/deioces/deioces/Message$Kind;" (.ref a3) := (P0.ext E1)
  obtain ⟨T4, X4, e4, st4⟩ := getS2 X1 hx hZ hown (host := "") (Or.inl (hw _ (List.mem_of_getElem? (i := 11) rfl))) Via.refl e1 F3 (g := (mkF m 4 #[.val (.int i1), .val (.long j2), .second] [(.ref b1), (.ref b1)])) rfl (hb hby d2_4)
  refine own_st st4 ?_
  show own_Fin p e below _ (T4.setTop (mkF m 7 #[.val (.int i1), .val (.long j2), .second] [(.ref a3), (.ref b1), (.ref b1)]))
  refine own_st (fun t k => XS.iloadN X4.here hx rfl (hb hby d2_7) rfl k) ?_
  show own_Fin p e below _ (T4.setTop (mkF m 8 #[.val (.int i1), .val (.long j2), .second] [(.int i1), (.ref a3), (.ref b1), (.ref b1)]))
  refine own_st (fun t k => XS.lloadN X4.here hx rfl (hb hby d2_8) rfl k) ?_
  show own_Fin p e below _ (T4.setTop (mkF m 9 #[.val (.int i1), .val (.long j2), .second] [(.long j2), (.int i1), (.ref a3), (.ref b1), (.ref b1)]))
  refine own_st (fun t k => XS.iconst X4.here hx rfl (hb hby d2_9) k) ?_
  show own_Fin p e below _ (T4.setTop (mkF m 10 #[.val (.int i1), .val (.long j2), .second] [(.int (0 : Int32)), (.long j2), (.int i1), (.ref a3), (.ref b1), (.ref b1)]))
  obtain ⟨_, _, ⟨T5, L5, k5, n5⟩, -, X5, ⟨Lc5, hQ5, l5, y5, z5⟩, st5⟩ := X4.specialBack hx (y := (⟨"com/example/deioces/deioces/Message", "<init>", "(Lcom/example/deioces/deioces/Message$Kind;IJZ)V"⟩ : MethodName)) rfl hown (mvT hZ (hw _ (List.mem_of_getElem? (i := 14) rfl))) (mvT hZ (hw _ (List.mem_of_getElem? (i := 15) rfl))) (mvT hZ (hw _ (List.mem_of_getElem? (i := 16) rfl))) (by decide) (backOf (W := 1) (rm3_1 l Z a0 hw [] b1 a3 i1 j2 h1 n0 Z2 F1_21 A1 g_b1 F1_23 F1_25 F1_27) hZ (hw _ (List.mem_of_getElem? (i := 16) rfl)) (hw _ (List.mem_of_getElem? (i := 7) rfl)) (by decide) (by decide)) (g := (mkF m 10 #[.val (.int i1), .val (.long j2), .second] [(.int (0 : Int32)), (.long j2), (.int i1), (.ref a3), (.ref b1), (.ref b1)])) rfl (by rw [hml]; rfl) (Steps.refl _) (a := b1) (argsL := [(.ref a3), (.int i1), (.long j2), (.int (0 : Int32))]) (rest := [(.ref b1)]) (lenOf pd__Lcom_example_deioces_deioces_Message_Kind_IJZ_V rfl) rfl (by show 2 * 0 + _ ≤ _; exact Nat.le_of_eq rfl) (hb hby d2_10) (fun _ _ => ⟨rfl, e4, (by decide : 1 + 0 ≤ _), (by decide : 4 + 0 ≤ _)⟩)
  dsimp only [Pt.U, Pt.locs, Pt.cells, Pt.slots] at X5 l5 y5 z5 st5 hQ5
  subst l5 y5 z5
  obtain ⟨rfl, N5q, K5q, G5_0, G5_1, G5_2, G5_3⟩ := hQ5
  have Z6 : n0 ≤ Array.size T5.heap := Nat.le_trans Z2 K5q.1
  have KC6 : Keep h0 T5.heap [] := KC2.trans K5q (allS (Or.inr sz_b1) all0)
  have N5 := Fr.app N0 N5q
  refine own_tr st5 ?_
  show own_Fin p e below _ (T5.setTop (mkF m 13 #[.val (.int i1), .val (.long j2), .second] [(.ref b1)]))
  have F7 : Exa Z T5.heap b1 "com/example/deioces/deioces/Message" := (A1.keep K5q)
  obtain ⟨fs, hr, hrun, hended, hW, hsame⟩ := X5.leave (v := some (.ref b1)) (fun h => by rw [Bd.returns] at h; cases h)
  have hQf : Q2_2 Z i1 j2 a3 h0 n0 _ T5.heap _ := ⟨b1, rfl, N5, KC6, sz_b1, F7, G5_0, G5_1, G5_2, G5_3⟩
  exact ⟨_, _, retOut X5 hx (t := (.object "com/example/deioces/deioces/Message")) Bd.returns rfl (Or.inr (Or.inr (Or.inr (Or.inr ⟨rfl, rfl, rfl⟩)))) (hb hby d2_13) hr, hrun, hended, _, _, rfl, hQf, ⟨_, rfl⟩, hW, hsame.mono (by decide) (by decide)⟩
theorem pd__IJ_Lcom_example_deioces_deioces_Message_ : parseMethodDescriptor "(IJ)Lcom/example/deioces/deioces/Message;" = some ⟨[.int, .long], some (.object "com/example/deioces/deioces/Message")⟩ := by decide +kernel
theorem d1_15 : decode method_2_code 15 = .ok (.areturn, 1) := by decide +kernel
theorem ef_1_IIJ (m : MethodId) (x0 : Int32) (x1 : Int32) (x2 : Int64) : entryFrame m #[(.int x0), (.int x1), (.long x2)] 5 = mkF m 0 #[.val (.int x0), .val (.int x1), .val (.long x2), .second, .unset] [] := by first | (simp [entryFrame, mkF, argsToLocals, Value.category]; done) | rfl
theorem pn_com_example_deioces_deioces_DatagramEchoingPinLaw : plainName "com/example/deioces/deioces/DatagramEchoingPinLaw" = true := by first | (simp [plainName, overriddenIn]; done) | decide +kernel
def Q1_3 (Z : State) (i1 : Int32) (i2 : Int32) (j3 : Int64) (a4 : Addr) (h0 : Heap) (n0 : Nat) (v : Option Value) (h : Heap) (L : List Loc) : Prop := ∃ b1_0 : Addr, v = some (.ref b1_0) ∧ Fr n0 L ∧ Keep h0 h [] ∧ Array.size h0 ≤ b1_0 ∧ Exa Z h b1_0 "com/example/deioces/deioces/Message" ∧ Fld Z h b1_0 "com/example/deioces/deioces/Message" "kind" "Lcom/example/deioces/deioces/Message$Kind;" (.ref a4) ∧ Fld Z h b1_0 "com/example/deioces/deioces/Message" "sender" "I" (.int i2) ∧ Fld Z h b1_0 "com/example/deioces/deioces/Message" "stamp" "J" (.long j3) ∧ Fld Z h b1_0 "com/example/deioces/deioces/Message" "supportive" "Z" (.int (0 : Int32))
set_option maxRecDepth 65536 in
set_option maxHeartbeats 40000000 in
theorem rm1_3 (l : Launch) (Z : State) (a0 : Array Value) (hw : ∀ d ∈ tables_1, d.before a0 Z = true) (ws : List Jvm.Cond) (i1 : Int32) (i2 : Int32) (j3 : Int64) (a4 : Addr) (h0 : Heap) (n0 : Nat) (Z0 : n0 ≤ Array.size h0) (P0 : (i1 &&& (3 : Int32)) = (0 : Int32)) (P1 : Sta Z h0 "com/example/deioces/deioces/Message$Kind" "ELECTION" "Lcom/example/deioces/deioces/Message$Kind;" (.ref a4)) :
    MetFree l (⟨"com/example/deioces/deioces/DatagramEchoingPinLaw", "makeMessage", "(IIJ)Lcom/example/deioces/deioces/Message;"⟩ : MethodName) (head1 (Jvm.Cond.code (⟨"com/example/deioces/deioces/DatagramEchoingPinLaw", "makeMessage", "(IIJ)Lcom/example/deioces/deioces/Message;"⟩ : MethodName) method_2_code 5 (some (.object "com/example/deioces/deioces/Message")) :: ws) ({ frames := 3, cells := 1, slots := 4, locals := 44 } : Room)) (fun a U => a = #[(.int i1), (.int i2), (.long j3)] ∧ Z.Warmed39 U.vm ∧ U.heap = h0) (fun _ _ _ _ _ => True) (fun _ U o U' => ∃ v L, o = .returned v ∧ Q1_3 Z i1 i2 j3 a4 h0 n0 v U'.heap L ∧ FrameEnd U o U' L ({ frames := 3, cells := 1, slots := 4, locals := 44 } : Room).cells ({ frames := 3, cells := 1, slots := 4, locals := 44 } : Room).slots) := by
  refine MetFree.of_bodySF (plainFor_of_name pn_com_example_deioces_deioces_DatagramEchoingPinLaw) hisR ?_
  intro p e s m args below meth c s₁ Bd hml0 hP hK
  obtain ⟨rfl, hZ, hh⟩ := hP
  have hx := Bd.exec
  have hby := Bd.bytes
  have hml : c.maxLocals = 5 := hml0
  have hown : s.vm.findClass "com/example/deioces/deioces/DatagramEchoingPinLaw" = some m.cls := findClass_of_methodNamed Bd.named
  have hnm := (name_of_methodNamed Bd.named Bd.method).1
  have X0 : Stand p l e ({ frames := 3, cells := 1, slots := 4, locals := 44 } : Room) s m #[(.int i1), (.int i2), (.long j3)] below meth c s₁ [] 0 0 := Stand.of_body Bd
  have e0 : s₁.heap = h0 := by rw [← hh, Bd.state]; rfl
  have N0 := Fr.nil n0
  refine (?_ : own_Fin p e below _ _)
  refine own_st (fun t k => castTop (ef_1_IIJ m i1 i2 j3) k) ?_
  show own_Fin p e below _ (s₁.setTop (mkF m 0 #[.val (.int i1), .val (.int i2), .val (.long j3), .second, .unset] []))
  refine own_st (fun t k => XS.iloadN X0.here hx rfl (hb hby d1_0) rfl k) ?_
  show own_Fin p e below _ (s₁.setTop (mkF m 1 #[.val (.int i1), .val (.int i2), .val (.long j3), .second, .unset] [(.int i1)]))
  refine own_st (fun t k => XS.iconst X0.here hx rfl (hb hby d1_1) k) ?_
  show own_Fin p e below _ (s₁.setTop (mkF m 2 #[.val (.int i1), .val (.int i2), .val (.long j3), .second, .unset] [(.int (3 : Int32)), (.int i1)]))
  refine own_st (fun t k => XS.iand X0.here hx rfl (hb hby d1_2) rfl k) ?_
  show own_Fin p e below _ (s₁.setTop (mkF m 3 #[.val (.int i1), .val (.int i2), .val (.long j3), .second, .unset] [(.int (i1 &&& (3 : Int32)))]))
  rw [P0]
  show own_Fin p e below _ (s₁.setTop (mkF m 3 #[.val (.int i1), .val (.int i2), .val (.long j3), .second, .unset] [(.int (0 : Int32))]))
  refine own_st (fun t k => XS.istore X0.here hx rfl (hb hby d1_3) rfl (l' := #[.val (.int i1), .val (.int i2), .val (.long j3), .second, .val (.int (0 : Int32))]) rfl k) ?_
  show own_Fin p e below _ (s₁.setTop (mkF m 5 #[.val (.int i1), .val (.int i2), .val (.long j3), .second, .val (.int (0 : Int32))] []))
  refine own_st (fun t k => XS.iload X0.here hx rfl (hb hby d1_5) rfl k) ?_
  show own_Fin p e below _ (s₁.setTop (mkF m 7 #[.val (.int i1), .val (.int i2), .val (.long j3), .second, .val (.int (0 : Int32))] [(.int (0 : Int32))]))
  refine own_st (fun t k => XS.ifNo X0.here hx rfl (hb hby d1_7) rfl (by decide) k) ?_
  show own_Fin p e below _ (s₁.setTop (mkF m 10 #[.val (.int i1), .val (.int i2), .val (.long j3), .second, .val (.int (0 : Int32))] []))
  refine own_st (fun t k => XS.iloadN X0.here hx rfl (hb hby d1_10) rfl k) ?_
  show own_Fin p e below _ (s₁.setTop (mkF m 11 #[.val (.int i1), .val (.int i2), .val (.long j3), .second, .val (.int (0 : Int32))] [(.int i2)]))
  refine own_st (fun t k => XS.lloadN X0.here hx rfl (hb hby d1_11) rfl k) ?_
  show own_Fin p e below _ (s₁.setTop (mkF m 12 #[.val (.int i1), .val (.int i2), .val (.long j3), .second, .val (.int (0 : Int32))] [(.long j3), (.int i2)]))
  obtain ⟨_, _, ⟨T1, L1, k1, n1⟩, -, X1, ⟨Lc1, hQ1, l1, y1, z1⟩, st1⟩ := Jvm.LawKit.callS X0 hx (y := (⟨"com/example/deioces/deioces/Message", "election", "(IJ)Lcom/example/deioces/deioces/Message;"⟩ : MethodName)) hown (mvT hZ (hw _ (List.mem_of_getElem? (i := 5) rfl))) (mvT hZ (hw _ (List.mem_of_getElem? (i := 6) rfl))) (mvT hZ (hw _ (List.mem_of_getElem? (i := 7) rfl))) (mvT hZ (hw _ (List.mem_of_getElem? (i := 8) rfl))) (by decide) (backOf (W := 0) (rm2_2 l Z a0 hw [] i2 j3 a4 h0 n0 Z0 P1) hZ (hw _ (List.mem_of_getElem? (i := 8) rfl)) (hw _ (List.mem_of_getElem? (i := 7) rfl)) (by decide) (by decide)) (g := (mkF m 12 #[.val (.int i1), .val (.int i2), .val (.long j3), .second, .val (.int (0 : Int32))] [(.long j3), (.int i2)])) rfl (by rw [hml]; rfl) (argsL := [(.int i2), (.long j3)]) (rest := []) (lenOf pd__IJ_Lcom_example_deioces_deioces_Message_ rfl) rfl (by show 2 * 0 + _ ≤ _; exact Nat.le_of_eq rfl) (hb hby d1_12) (fun _ _ => ⟨rfl, e0, (by decide : 0 + 1 ≤ _), (by decide : 0 + 4 ≤ _)⟩)
  dsimp only [Pt.U, Pt.locs, Pt.cells, Pt.slots] at X1 l1 y1 z1 st1 hQ1
  subst l1 y1 z1
  obtain ⟨b1_0, rfl, N1q, K1q, le_b1_0, G1_0, G1_1, G1_2, G1_3, G1_4⟩ := hQ1
  have sz_b1_0 : h0.size ≤ b1_0 := Nat.le_trans (Keep.refl h0 []).1 le_b1_0
  have g_b1_0 : n0 ≤ b1_0 := Nat.le_trans Z0 sz_b1_0
  have Z2 : n0 ≤ Array.size T1.heap := Nat.le_trans Z0 K1q.1
  have KC2 : Keep h0 T1.heap [] := (Keep.refl h0 []).trans K1q all0
  have N1 := Fr.app N0 N1q
  refine own_st st1 ?_
  show own_Fin p e below _ (T1.setTop (mkF m 15 #[.val (.int i1), .val (.int i2), .val (.long j3), .second, .val (.int (0 : Int32))] [(.ref b1_0)]))
  obtain ⟨fs, hr, hrun, hended, hW, hsame⟩ := X1.leave (v := some (.ref b1_0)) (fun h => by rw [Bd.returns] at h; cases h)
  have hQf : Q1_3 Z i1 i2 j3 a4 h0 n0 _ T1.heap _ := ⟨b1_0, rfl, N1, KC2, sz_b1_0, G1_0, G1_1, G1_2, G1_3, G1_4⟩
  exact ⟨_, _, retOut X1 hx (t := (.object "com/example/deioces/deioces/Message")) Bd.returns rfl (Or.inr (Or.inr (Or.inr (Or.inr ⟨rfl, rfl, rfl⟩)))) (hb hby d1_15) hr, hrun, hended, _, _, rfl, hQf, ⟨_, rfl⟩, hW, hsame.mono (by decide) (by decide)⟩
theorem pd__IIJ_Lcom_example_deioces_deioces_Message_ : parseMethodDescriptor "(IIJ)Lcom/example/deioces/deioces/Message;" = some ⟨[.int, .int, .long], some (.object "com/example/deioces/deioces/Message")⟩ := by decide +kernel
theorem d5_0 : decode prog_14_method_3_code 0 = .ok (.new 8, 3) := by decide +kernel
theorem d5_3 : decode prog_14_method_3_code 3 = .ok (.dup, 1) := by decide +kernel
theorem d5_4 : decode prog_14_method_3_code 4 = .ok (.aload_n 0, 1) := by decide +kernel
theorem d5_5 : decode prog_14_method_3_code 5 = .ok (.lload_n 1, 1) := by decide +kernel
theorem d5_6 : decode prog_14_method_3_code 6 = .ok (.iconst 1, 1) := by decide +kernel
theorem d5_7 : decode prog_14_method_3_code 7 = .ok (.lload_n 3, 1) := by decide +kernel
theorem d5_8 : decode prog_14_method_3_code 8 = .ok (.lload 5, 2) := by decide +kernel
theorem d5_10 : decode prog_14_method_3_code 10 = .ok (.invokespecial 27, 3) := by decide +kernel
theorem d6_0 : decode prog_14_method_1_code 0 = .ok (.aload_n 0, 1) := by decide +kernel
theorem d6_1 : decode prog_14_method_1_code 1 = .ok (.invokespecial 1, 3) := by decide +kernel
theorem d6_4 : decode prog_14_method_1_code 4 = .ok (.aload_n 0, 1) := by decide +kernel
theorem d6_5 : decode prog_14_method_1_code 5 = .ok (.aload_n 1, 1) := by decide +kernel
theorem d6_6 : decode prog_14_method_1_code 6 = .ok (.putfield 7, 3) := by decide +kernel
theorem d6_9 : decode prog_14_method_1_code 9 = .ok (.aload_n 0, 1) := by decide +kernel
theorem d6_10 : decode prog_14_method_1_code 10 = .ok (.lload_n 2, 1) := by decide +kernel
theorem d6_11 : decode prog_14_method_1_code 11 = .ok (.putfield 13, 3) := by decide +kernel
theorem d6_14 : decode prog_14_method_1_code 14 = .ok (.aload_n 0, 1) := by decide +kernel
theorem d6_15 : decode prog_14_method_1_code 15 = .ok (.iload 4, 2) := by decide +kernel
theorem d6_17 : decode prog_14_method_1_code 17 = .ok (.putfield 17, 3) := by decide +kernel
theorem d6_20 : decode prog_14_method_1_code 20 = .ok (.aload_n 0, 1) := by decide +kernel
theorem d6_21 : decode prog_14_method_1_code 21 = .ok (.lload 5, 2) := by decide +kernel
theorem d6_23 : decode prog_14_method_1_code 23 = .ok (.putfield 21, 3) := by decide +kernel
theorem d6_26 : decode prog_14_method_1_code 26 = .ok (.aload_n 0, 1) := by decide +kernel
theorem d6_27 : decode prog_14_method_1_code 27 = .ok (.lload 7, 2) := by decide +kernel
theorem d6_29 : decode prog_14_method_1_code 29 = .ok (.putfield 24, 3) := by decide +kernel
theorem d6_32 : decode prog_14_method_1_code 32 = .ok (.return_, 1) := by decide +kernel
theorem ef_6_RRJIJJ (m : MethodId) (x0 : Addr) (x1 : Addr) (x2 : Int64) (x3 : Int32) (x4 : Int64) (x5 : Int64) : entryFrame m #[(.ref x0), (.ref x1), (.long x2), (.int x3), (.long x4), (.long x5)] 9 = mkF m 0 #[.val (.ref x0), .val (.ref x1), .val (.long x2), .second, .val (.int x3), .val (.long x4), .second, .val (.long x5), .second] [] := by first | (simp [entryFrame, mkF, argsToLocals, Value.category]; done) | rfl
theorem pn_com_example_deioces_deioces_Datagram : plainName "com/example/deioces/deioces/Datagram" = true := by first | (simp [plainName, overriddenIn]; done) | decide +kernel
def Q6_4 (Z : State) (a1 : Addr) (a2 : Addr) (j3 : Int64) (j4 : Int64) (j5 : Int64) (h0 : Heap) (n0 : Nat) (v : Option Value) (h : Heap) (L : List Loc) : Prop := v = none ∧ Fr n0 L ∧ Keep h0 h [a1] ∧ Fld Z h a1 "com/example/deioces/deioces/Datagram" "message" "Lcom/example/deioces/deioces/Message;" (.ref a2) ∧ Fld Z h a1 "com/example/deioces/deioces/Datagram" "sent" "J" (.long j3) ∧ Fld Z h a1 "com/example/deioces/deioces/Datagram" "echoes" "Z" (.int (1 : Int32)) ∧ Fld Z h a1 "com/example/deioces/deioces/Datagram" "echoed" "J" (.long j4) ∧ Fld Z h a1 "com/example/deioces/deioces/Datagram" "held" "J" (.long j5)
set_option maxRecDepth 65536 in
set_option maxHeartbeats 40000000 in
theorem rm6_4 (l : Launch) (Z : State) (a0 : Array Value) (hw : ∀ d ∈ tables_1, d.before a0 Z = true) (ws : List Jvm.Cond) (a1 : Addr) (a2 : Addr) (j3 : Int64) (j4 : Int64) (j5 : Int64) (h0 : Heap) (n0 : Nat) (Z0 : n0 ≤ Array.size h0) (P0 : Fld Z h0 a1 "com/example/deioces/deioces/Datagram" "message" "Lcom/example/deioces/deioces/Message;" .null) (P1 : Exa Z h0 a1 "com/example/deioces/deioces/Datagram") (P2 : n0 ≤ a1) (P3 : Fld Z h0 a1 "com/example/deioces/deioces/Datagram" "sent" "J" (.long (0 : Int64))) (P4 : Fld Z h0 a1 "com/example/deioces/deioces/Datagram" "echoes" "Z" (.int (0 : Int32))) (P5 : Fld Z h0 a1 "com/example/deioces/deioces/Datagram" "echoed" "J" (.long (0 : Int64))) (P6 : Fld Z h0 a1 "com/example/deioces/deioces/Datagram" "held" "J" (.long (0 : Int64))) :
    MetFree l (⟨"com/example/deioces/deioces/Datagram", "<init>", "(Lcom/example/deioces/deioces/Message;JZJJ)V"⟩ : MethodName) (head1 (Jvm.Cond.code (⟨"com/example/deioces/deioces/Datagram", "<init>", "(Lcom/example/deioces/deioces/Message;JZJJ)V"⟩ : MethodName) prog_14_method_1_code 9 none :: ws) ({ frames := 1, cells := 0, slots := 0, locals := 12 } : Room)) (fun a U => a = #[(.ref a1), (.ref a2), (.long j3), (.int (1 : Int32)), (.long j4), (.long j5)] ∧ Z.Warmed39 U.vm ∧ U.heap = h0) (fun _ _ _ _ _ => True) (fun _ U o U' => ∃ v L, o = .returned v ∧ Q6_4 Z a1 a2 j3 j4 j5 h0 n0 v U'.heap L ∧ FrameEnd U o U' L ({ frames := 1, cells := 0, slots := 0, locals := 12 } : Room).cells ({ frames := 1, cells := 0, slots := 0, locals := 12 } : Room).slots) := by
  refine MetFree.of_bodySF (plainFor_of_name pn_com_example_deioces_deioces_Datagram) hisR ?_
  intro p e s m args below meth c s₁ Bd hml0 hP hK
  obtain ⟨rfl, hZ, hh⟩ := hP
  have hx := Bd.exec
  have hby := Bd.bytes
  have hml : c.maxLocals = 9 := hml0
  have hown : s.vm.findClass "com/example/deioces/deioces/Datagram" = some m.cls := findClass_of_methodNamed Bd.named
  have hnm := (name_of_methodNamed Bd.named Bd.method).1
  have X0 : Stand p l e ({ frames := 1, cells := 0, slots := 0, locals := 12 } : Room) s m #[(.ref a1), (.ref a2), (.long j3), (.int (1 : Int32)), (.long j4), (.long j5)] below meth c s₁ [] 0 0 := Stand.of_body Bd
  have e0 : s₁.heap = h0 := by rw [← hh, Bd.state]; rfl
  have N0 := Fr.nil n0
  refine (?_ : own_Fin p e below _ _)
  refine own_st (fun t k => castTop (ef_6_RRJIJJ m a1 a2 j3 (1 : Int32) j4 j5) k) ?_
  show own_Fin p e below _ (s₁.setTop (mkF m 0 #[.val (.ref a1), .val (.ref a2), .val (.long j3), .second, .val (.int (1 : Int32)), .val (.long j4), .second, .val (.long j5), .second] []))
  refine own_st (fun t k => XS.aloadN X0.here hx rfl (hb hby d6_0) rfl rfl k) ?_
  show own_Fin p e below _ (s₁.setTop (mkF m 1 #[.val (.ref a1), .val (.ref a2), .val (.long j3), .second, .val (.int (1 : Int32)), .val (.long j4), .second, .val (.long j5), .second] [(.ref a1)]))
  obtain ⟨T1, X1, e1, st1⟩ := initO X0 hx hZ hown (hw _ (List.mem_of_getElem? (i := 37) rfl)) (hw _ (List.mem_of_getElem? (i := 18) rfl)) (hw _ (List.mem_of_getElem? (i := 19) rfl)) e0 (g := (mkF m 1 #[.val (.ref a1), .val (.ref a2), .val (.long j3), .second, .val (.int (1 : Int32)), .val (.long j4), .second, .val (.long j5), .second] [(.ref a1)])) rfl (by rw [hml]; rfl) rfl (hb hby d6_1) (by decide) (W := 0) (by show 2 * 0 + _ ≤ _; exact Nat.le_of_eq rfl) (by decide)
  refine own_st st1 ?_
  show own_Fin p e below _ (T1.setTop (mkF m 4 #[.val (.ref a1), .val (.ref a2), .val (.long j3), .second, .val (.int (1 : Int32)), .val (.long j4), .second, .val (.long j5), .second] []))
  refine own_st (fun t k => XS.aloadN X1.here hx rfl (hb hby d6_4) rfl rfl k) ?_
  show own_Fin p e below _ (T1.setTop (mkF m 5 #[.val (.ref a1), .val (.ref a2), .val (.long j3), .second, .val (.int (1 : Int32)), .val (.long j4), .second, .val (.long j5), .second] [(.ref a1)]))
  refine own_st (fun t k => XS.aloadN X1.here hx rfl (hb hby d6_5) rfl rfl k) ?_
  show own_Fin p e below _ (T1.setTop (mkF m 6 #[.val (.ref a1), .val (.ref a2), .val (.long j3), .second, .val (.int (1 : Int32)), .val (.long j4), .second, .val (.long j5), .second] [(.ref a2), (.ref a1)]))
  obtain ⟨T2, h2, X2, e2, W2, st2⟩ := putF X1 hx hZ hown (host := "") (Or.inl (hw _ (List.mem_of_getElem? (i := 38) rfl))) Via.refl e1 P0 P1 (Or.inr ⟨(hw _ (List.mem_of_getElem? (i := 39) rfl)), rfl, hnm⟩) (hw _ (List.mem_of_getElem? (i := 33) rfl)) (ty := (.object "com/example/deioces/deioces/Message")) (by decide) rfl rfl (g := (mkF m 6 #[.val (.ref a1), .val (.ref a2), .val (.long j3), .second, .val (.int (1 : Int32)), .val (.long j4), .second, .val (.long j5), .second] [(.ref a2), (.ref a1)])) rfl rfl (hb hby d6_6)
  have F2 : Fld Z h2 a1 "com/example/deioces/deioces/Datagram" "message" "Lcom/example/deioces/deioces/Message;" (.ref a2) := P0.same W2
  have N2 := Fr.snoc X2 N0 P2
  have Z3 : n0 ≤ Array.size h2 := Nat.le_trans Z0 (Keep.of_wr W2).1
  have KC3 : Keep h0 h2 [a1] := (Keep.refl h0 [a1]).wr W2 (Or.inl (List.mem_of_getElem? (i := 0) rfl))
  refine own_st st2 ?_
  show own_Fin p e below _ (T2.setTop (mkF m 9 #[.val (.ref a1), .val (.ref a2), .val (.long j3), .second, .val (.int (1 : Int32)), .val (.long j4), .second, .val (.long j5), .second] []))
  refine own_st (fun t k => XS.aloadN X2.here hx rfl (hb hby d6_9) rfl rfl k) ?_
  show own_Fin p e below _ (T2.setTop (mkF m 10 #[.val (.ref a1), .val (.ref a2), .val (.long j3), .second, .val (.int (1 : Int32)), .val (.long j4), .second, .val (.long j5), .second] [(.ref a1)]))
  refine own_st (fun t k => XS.lloadN X2.here hx rfl (hb hby d6_10) rfl k) ?_
  show own_Fin p e below _ (T2.setTop (mkF m 11 #[.val (.ref a1), .val (.ref a2), .val (.long j3), .second, .val (.int (1 : Int32)), .val (.long j4), .second, .val (.long j5), .second] [(.long j3), (.ref a1)]))
  have F4 : Fld Z h2 a1 "com/example/deioces/deioces/Datagram" "sent" "J" (.long (0 : Int64)) := (P3.other W2 (Or.inr (slot_ne (Or.inr (hw _ (List.mem_of_getElem? (i := 41) rfl))) (Or.inr (hw _ (List.mem_of_getElem? (i := 39) rfl))) (by decide) (t := .long) (t' := (.object "com/example/deioces/deioces/Message")) (by decide) (by decide))))
  have F5 : Exa Z h2 a1 "com/example/deioces/deioces/Datagram" := (P1.wr W2)
  obtain ⟨T6, h6, X6, e6, W6, st6⟩ := putF X2 hx hZ hown (host := "") (Or.inl (hw _ (List.mem_of_getElem? (i := 40) rfl))) Via.refl e2 F4 F5 (Or.inr ⟨(hw _ (List.mem_of_getElem? (i := 41) rfl)), rfl, hnm⟩) (hw _ (List.mem_of_getElem? (i := 33) rfl)) (ty := .long) (by decide) rfl rfl (g := (mkF m 11 #[.val (.ref a1), .val (.ref a2), .val (.long j3), .second, .val (.int (1 : Int32)), .val (.long j4), .second, .val (.long j5), .second] [(.long j3), (.ref a1)])) rfl rfl (hb hby d6_11)
  have F6 : Fld Z h6 a1 "com/example/deioces/deioces/Datagram" "sent" "J" (.long j3) := F4.same W6
  have N6 := Fr.snoc X6 N2 P2
  have Z7 : n0 ≤ Array.size h6 := Nat.le_trans Z3 (Keep.of_wr W6).1
  have KC7 : Keep h0 h6 [a1] := KC3.wr W6 (Or.inl (List.mem_of_getElem? (i := 0) rfl))
  refine own_st st6 ?_
  show own_Fin p e below _ (T6.setTop (mkF m 14 #[.val (.ref a1), .val (.ref a2), .val (.long j3), .second, .val (.int (1 : Int32)), .val (.long j4), .second, .val (.long j5), .second] []))
  refine own_st (fun t k => XS.aloadN X6.here hx rfl (hb hby d6_14) rfl rfl k) ?_
  show own_Fin p e below _ (T6.setTop (mkF m 15 #[.val (.ref a1), .val (.ref a2), .val (.long j3), .second, .val (.int (1 : Int32)), .val (.long j4), .second, .val (.long j5), .second] [(.ref a1)]))
  refine own_st (fun t k => XS.iload X6.here hx rfl (hb hby d6_15) rfl k) ?_
  show own_Fin p e below _ (T6.setTop (mkF m 17 #[.val (.ref a1), .val (.ref a2), .val (.long j3), .second, .val (.int (1 : Int32)), .val (.long j4), .second, .val (.long j5), .second] [(.int (1 : Int32)), (.ref a1)]))
  have F8 : Fld Z h6 a1 "com/example/deioces/deioces/Datagram" "echoes" "Z" (.int (0 : Int32)) := ((P4.other W2 (Or.inr (slot_ne (Or.inr (hw _ (List.mem_of_getElem? (i := 43) rfl))) (Or.inr (hw _ (List.mem_of_getElem? (i := 39) rfl))) (by decide) (t := .boolean) (t' := (.object "com/example/deioces/deioces/Message")) (by decide) (by decide)))).other W6 (Or.inr (slot_ne (Or.inr (hw _ (List.mem_of_getElem? (i := 43) rfl))) (Or.inr (hw _ (List.mem_of_getElem? (i := 41) rfl))) (by decide) (t := .boolean) (t' := .long) (by decide) (by decide))))
  have F9 : Exa Z h6 a1 "com/example/deioces/deioces/Datagram" := (F5.wr W6)
  obtain ⟨T10, h10, X10, e10, W10, st10⟩ := putF X6 hx hZ hown (host := "") (Or.inl (hw _ (List.mem_of_getElem? (i := 42) rfl))) Via.refl e6 F8 F9 (Or.inr ⟨(hw _ (List.mem_of_getElem? (i := 43) rfl)), rfl, hnm⟩) (hw _ (List.mem_of_getElem? (i := 33) rfl)) (ty := .boolean) (by decide) rfl rfl (g := (mkF m 17 #[.val (.ref a1), .val (.ref a2), .val (.long j3), .second, .val (.int (1 : Int32)), .val (.long j4), .second, .val (.long j5), .second] [(.int (1 : Int32)), (.ref a1)])) rfl rfl (hb hby d6_17)
  have F10 : Fld Z h10 a1 "com/example/deioces/deioces/Datagram" "echoes" "Z" (.int (1 : Int32)) := F8.same W10
  have N10 := Fr.snoc X10 N6 P2
  have Z11 : n0 ≤ Array.size h10 := Nat.le_trans Z7 (Keep.of_wr W10).1
  have KC11 : Keep h0 h10 [a1] := KC7.wr W10 (Or.inl (List.mem_of_getElem? (i := 0) rfl))
  refine own_st st10 ?_
  show own_Fin p e below _ (T10.setTop (mkF m 20 #[.val (.ref a1), .val (.ref a2), .val (.long j3), .second, .val (.int (1 : Int32)), .val (.long j4), .second, .val (.long j5), .second] []))
  refine own_st (fun t k => XS.aloadN X10.here hx rfl (hb hby d6_20) rfl rfl k) ?_
  show own_Fin p e below _ (T10.setTop (mkF m 21 #[.val (.ref a1), .val (.ref a2), .val (.long j3), .second, .val (.int (1 : Int32)), .val (.long j4), .second, .val (.long j5), .second] [(.ref a1)]))
  refine own_st (fun t k => XS.lload X10.here hx rfl (hb hby d6_21) rfl k) ?_
  show own_Fin p e below _ (T10.setTop (mkF m 23 #[.val (.ref a1), .val (.ref a2), .val (.long j3), .second, .val (.int (1 : Int32)), .val (.long j4), .second, .val (.long j5), .second] [(.long j4), (.ref a1)]))
  have F12 : Fld Z h10 a1 "com/example/deioces/deioces/Datagram" "echoed" "J" (.long (0 : Int64)) := (((P5.other W2 (Or.inr (slot_ne (Or.inr (hw _ (List.mem_of_getElem? (i := 45) rfl))) (Or.inr (hw _ (List.mem_of_getElem? (i := 39) rfl))) (by decide) (t := .long) (t' := (.object "com/example/deioces/deioces/Message")) (by decide) (by decide)))).other W6 (Or.inr (slot_ne (Or.inr (hw _ (List.mem_of_getElem? (i := 45) rfl))) (Or.inr (hw _ (List.mem_of_getElem? (i := 41) rfl))) (by decide) (t := .long) (t' := .long) (by decide) (by decide)))).other W10 (Or.inr (slot_ne (Or.inr (hw _ (List.mem_of_getElem? (i := 45) rfl))) (Or.inr (hw _ (List.mem_of_getElem? (i := 43) rfl))) (by decide) (t := .long) (t' := .boolean) (by decide) (by decide))))
  have F13 : Exa Z h10 a1 "com/example/deioces/deioces/Datagram" := (F9.wr W10)
  obtain ⟨T14, h14, X14, e14, W14, st14⟩ := putF X10 hx hZ hown (host := "") (Or.inl (hw _ (List.mem_of_getElem? (i := 44) rfl))) Via.refl e10 F12 F13 (Or.inr ⟨(hw _ (List.mem_of_getElem? (i := 45) rfl)), rfl, hnm⟩) (hw _ (List.mem_of_getElem? (i := 33) rfl)) (ty := .long) (by decide) rfl rfl (g := (mkF m 23 #[.val (.ref a1), .val (.ref a2), .val (.long j3), .second, .val (.int (1 : Int32)), .val (.long j4), .second, .val (.long j5), .second] [(.long j4), (.ref a1)])) rfl rfl (hb hby d6_23)
  have F14 : Fld Z h14 a1 "com/example/deioces/deioces/Datagram" "echoed" "J" (.long j4) := F12.same W14
  have N14 := Fr.snoc X14 N10 P2
  have Z15 : n0 ≤ Array.size h14 := Nat.le_trans Z11 (Keep.of_wr W14).1
  have KC15 : Keep h0 h14 [a1] := KC11.wr W14 (Or.inl (List.mem_of_getElem? (i := 0) rfl))
  refine own_st st14 ?_
  show own_Fin p e below _ (T14.setTop (mkF m 26 #[.val (.ref a1), .val (.ref a2), .val (.long j3), .second, .val (.int (1 : Int32)), .val (.long j4), .second, .val (.long j5), .second] []))
  refine own_st (fun t k => XS.aloadN X14.here hx rfl (hb hby d6_26) rfl rfl k) ?_
  show own_Fin p e below _ (T14.setTop (mkF m 27 #[.val (.ref a1), .val (.ref a2), .val (.long j3), .second, .val (.int (1 : Int32)), .val (.long j4), .second, .val (.long j5), .second] [(.ref a1)]))
  refine own_st (fun t k => XS.lload X14.here hx rfl (hb hby d6_27) rfl k) ?_
  show own_Fin p e below _ (T14.setTop (mkF m 29 #[.val (.ref a1), .val (.ref a2), .val (.long j3), .second, .val (.int (1 : Int32)), .val (.long j4), .second, .val (.long j5), .second] [(.long j5), (.ref a1)]))
  have F16 : Fld Z h14 a1 "com/example/deioces/deioces/Datagram" "held" "J" (.long (0 : Int64)) := ((((P6.other W2 (Or.inr (slot_ne (Or.inr (hw _ (List.mem_of_getElem? (i := 47) rfl))) (Or.inr (hw _ (List.mem_of_getElem? (i := 39) rfl))) (by decide) (t := .long) (t' := (.object "com/example/deioces/deioces/Message")) (by decide) (by decide)))).other W6 (Or.inr (slot_ne (Or.inr (hw _ (List.mem_of_getElem? (i := 47) rfl))) (Or.inr (hw _ (List.mem_of_getElem? (i := 41) rfl))) (by decide) (t := .long) (t' := .long) (by decide) (by decide)))).other W10 (Or.inr (slot_ne (Or.inr (hw _ (List.mem_of_getElem? (i := 47) rfl))) (Or.inr (hw _ (List.mem_of_getElem? (i := 43) rfl))) (by decide) (t := .long) (t' := .boolean) (by decide) (by decide)))).other W14 (Or.inr (slot_ne (Or.inr (hw _ (List.mem_of_getElem? (i := 47) rfl))) (Or.inr (hw _ (List.mem_of_getElem? (i := 45) rfl))) (by decide) (t := .long) (t' := .long) (by decide) (by decide))))
  have F17 : Exa Z h14 a1 "com/example/deioces/deioces/Datagram" := (F13.wr W14)
  obtain ⟨T18, h18, X18, e18, W18, st18⟩ := putF X14 hx hZ hown (host := "") (Or.inl (hw _ (List.mem_of_getElem? (i := 46) rfl))) Via.refl e14 F16 F17 (Or.inr ⟨(hw _ (List.mem_of_getElem? (i := 47) rfl)), rfl, hnm⟩) (hw _ (List.mem_of_getElem? (i := 33) rfl)) (ty := .long) (by decide) rfl rfl (g := (mkF m 29 #[.val (.ref a1), .val (.ref a2), .val (.long j3), .second, .val (.int (1 : Int32)), .val (.long j4), .second, .val (.long j5), .second] [(.long j5), (.ref a1)])) rfl rfl (hb hby d6_29)
  have F18 : Fld Z h18 a1 "com/example/deioces/deioces/Datagram" "held" "J" (.long j5) := F16.same W18
  have N18 := Fr.snoc X18 N14 P2
  have Z19 : n0 ≤ Array.size h18 := Nat.le_trans Z15 (Keep.of_wr W18).1
  have KC19 : Keep h0 h18 [a1] := KC15.wr W18 (Or.inl (List.mem_of_getElem? (i := 0) rfl))
  refine own_st st18 ?_
  show own_Fin p e below _ (T18.setTop (mkF m 32 #[.val (.ref a1), .val (.ref a2), .val (.long j3), .second, .val (.int (1 : Int32)), .val (.long j4), .second, .val (.long j5), .second] []))
  have F20 : Fld Z h18 a1 "com/example/deioces/deioces/Datagram" "message" "Lcom/example/deioces/deioces/Message;" (.ref a2) := ((((F2.other W6 (Or.inr (slot_ne (Or.inr (hw _ (List.mem_of_getElem? (i := 39) rfl))) (Or.inr (hw _ (List.mem_of_getElem? (i := 41) rfl))) (by decide) (t := (.object "com/example/deioces/deioces/Message")) (t' := .long) (by decide) (by decide)))).other W10 (Or.inr (slot_ne (Or.inr (hw _ (List.mem_of_getElem? (i := 39) rfl))) (Or.inr (hw _ (List.mem_of_getElem? (i := 43) rfl))) (by decide) (t := (.object "com/example/deioces/deioces/Message")) (t' := .boolean) (by decide) (by decide)))).other W14 (Or.inr (slot_ne (Or.inr (hw _ (List.mem_of_getElem? (i := 39) rfl))) (Or.inr (hw _ (List.mem_of_getElem? (i := 45) rfl))) (by decide) (t := (.object "com/example/deioces/deioces/Message")) (t' := .long) (by decide) (by decide)))).other W18 (Or.inr (slot_ne (Or.inr (hw _ (List.mem_of_getElem? (i := 39) rfl))) (Or.inr (hw _ (List.mem_of_getElem? (i := 47) rfl))) (by decide) (t := (.object "com/example/deioces/deioces/Message")) (t' := .long) (by decide) (by decide))))
  have F21 : Fld Z h18 a1 "com/example/deioces/deioces/Datagram" "sent" "J" (.long j3) := (((F6.other W10 (Or.inr (slot_ne (Or.inr (hw _ (List.mem_of_getElem? (i := 41) rfl))) (Or.inr (hw _ (List.mem_of_getElem? (i := 43) rfl))) (by decide) (t := .long) (t' := .boolean) (by decide) (by decide)))).other W14 (Or.inr (slot_ne (Or.inr (hw _ (List.mem_of_getElem? (i := 41) rfl))) (Or.inr (hw _ (List.mem_of_getElem? (i := 45) rfl))) (by decide) (t := .long) (t' := .long) (by decide) (by decide)))).other W18 (Or.inr (slot_ne (Or.inr (hw _ (List.mem_of_getElem? (i := 41) rfl))) (Or.inr (hw _ (List.mem_of_getElem? (i := 47) rfl))) (by decide) (t := .long) (t' := .long) (by decide) (by decide))))
  have F22 : Fld Z h18 a1 "com/example/deioces/deioces/Datagram" "echoes" "Z" (.int (1 : Int32)) := ((F10.other W14 (Or.inr (slot_ne (Or.inr (hw _ (List.mem_of_getElem? (i := 43) rfl))) (Or.inr (hw _ (List.mem_of_getElem? (i := 45) rfl))) (by decide) (t := .boolean) (t' := .long) (by decide) (by decide)))).other W18 (Or.inr (slot_ne (Or.inr (hw _ (List.mem_of_getElem? (i := 43) rfl))) (Or.inr (hw _ (List.mem_of_getElem? (i := 47) rfl))) (by decide) (t := .boolean) (t' := .long) (by decide) (by decide))))
  have F23 : Fld Z h18 a1 "com/example/deioces/deioces/Datagram" "echoed" "J" (.long j4) := (F14.other W18 (Or.inr (slot_ne (Or.inr (hw _ (List.mem_of_getElem? (i := 45) rfl))) (Or.inr (hw _ (List.mem_of_getElem? (i := 47) rfl))) (by decide) (t := .long) (t' := .long) (by decide) (by decide))))
  obtain ⟨fs, hr, hrun, hended, hW, hsame⟩ := X18.leave (v := none) (fun _ => rfl)
  have hQf : Q6_4 Z a1 a2 j3 j4 j5 h0 n0 _ h18 _ := ⟨rfl, N18, KC19, F20, F21, F22, F23, F18⟩
  exact ⟨_, _, X18.returnOut hx Bd.returns (hb hby d6_32) hr, hrun, hended, _, _, rfl, (by show Q6_4 Z a1 a2 j3 j4 j5 h0 n0 _ T18.heap _; rw [e18]; exact hQf), ⟨_, rfl⟩, hW, hsame.mono (by decide) (by decide)⟩
theorem pd__Lcom_example_deioces_deioces_Message_JZJJ_V : parseMethodDescriptor "(Lcom/example/deioces/deioces/Message;JZJJ)V" = some ⟨[(.object "com/example/deioces/deioces/Message"), .long, .boolean, .long, .long], none⟩ := by decide +kernel
theorem d5_13 : decode prog_14_method_3_code 13 = .ok (.areturn, 1) := by decide +kernel
theorem ef_5_RJJJ (m : MethodId) (x0 : Addr) (x1 : Int64) (x2 : Int64) (x3 : Int64) : entryFrame m #[(.ref x0), (.long x1), (.long x2), (.long x3)] 7 = mkF m 0 #[.val (.ref x0), .val (.long x1), .second, .val (.long x2), .second, .val (.long x3), .second] [] := by first | (simp [entryFrame, mkF, argsToLocals, Value.category]; done) | rfl
def Q5_5 (Z : State) (a1 : Addr) (j2 : Int64) (j3 : Int64) (j4 : Int64) (h0 : Heap) (n0 : Nat) (v : Option Value) (h : Heap) (L : List Loc) : Prop := ∃ b1 : Addr, v = some (.ref b1) ∧ Fr n0 L ∧ Keep h0 h [] ∧ Array.size h0 ≤ b1 ∧ Exa Z h b1 "com/example/deioces/deioces/Datagram" ∧ Fld Z h b1 "com/example/deioces/deioces/Datagram" "message" "Lcom/example/deioces/deioces/Message;" (.ref a1) ∧ Fld Z h b1 "com/example/deioces/deioces/Datagram" "sent" "J" (.long j2) ∧ Fld Z h b1 "com/example/deioces/deioces/Datagram" "echoes" "Z" (.int (1 : Int32)) ∧ Fld Z h b1 "com/example/deioces/deioces/Datagram" "echoed" "J" (.long j3) ∧ Fld Z h b1 "com/example/deioces/deioces/Datagram" "held" "J" (.long j4)
set_option maxRecDepth 65536 in
set_option maxHeartbeats 40000000 in
theorem rm5_5 (l : Launch) (Z : State) (a0 : Array Value) (hw : ∀ d ∈ tables_1, d.before a0 Z = true) (ws : List Jvm.Cond) (a1 : Addr) (j2 : Int64) (j3 : Int64) (j4 : Int64) (h0 : Heap) (n0 : Nat) (Z0 : n0 ≤ Array.size h0) :
    MetFree l (⟨"com/example/deioces/deioces/Datagram", "echoing", "(Lcom/example/deioces/deioces/Message;JJJ)Lcom/example/deioces/deioces/Datagram;"⟩ : MethodName) (head1 (Jvm.Cond.code (⟨"com/example/deioces/deioces/Datagram", "echoing", "(Lcom/example/deioces/deioces/Message;JJJ)Lcom/example/deioces/deioces/Datagram;"⟩ : MethodName) prog_14_method_3_code 7 (some (.object "com/example/deioces/deioces/Datagram")) :: ws) ({ frames := 2, cells := 1, slots := 5, locals := 33 } : Room)) (fun a U => a = #[(.ref a1), (.long j2), (.long j3), (.long j4)] ∧ Z.Warmed39 U.vm ∧ U.heap = h0) (fun _ _ _ _ _ => True) (fun _ U o U' => ∃ v L, o = .returned v ∧ Q5_5 Z a1 j2 j3 j4 h0 n0 v U'.heap L ∧ FrameEnd U o U' L ({ frames := 2, cells := 1, slots := 5, locals := 33 } : Room).cells ({ frames := 2, cells := 1, slots := 5, locals := 33 } : Room).slots) := by
  refine MetFree.of_bodySF (plainFor_of_name pn_com_example_deioces_deioces_Datagram) hisR ?_
  intro p e s m args below meth c s₁ Bd hml0 hP hK
  obtain ⟨rfl, hZ, hh⟩ := hP
  have hx := Bd.exec
  have hby := Bd.bytes
  have hml : c.maxLocals = 7 := hml0
  have hown : s.vm.findClass "com/example/deioces/deioces/Datagram" = some m.cls := findClass_of_methodNamed Bd.named
  have hnm := (name_of_methodNamed Bd.named Bd.method).1
  have X0 : Stand p l e ({ frames := 2, cells := 1, slots := 5, locals := 33 } : Room) s m #[(.ref a1), (.long j2), (.long j3), (.long j4)] below meth c s₁ [] 0 0 := Stand.of_body Bd
  have e0 : s₁.heap = h0 := by rw [← hh, Bd.state]; rfl
  have N0 := Fr.nil n0
  refine (?_ : own_Fin p e below _ _)
  refine own_st (fun t k => castTop (ef_5_RJJJ m a1 j2 j3 j4) k) ?_
  show own_Fin p e below _ (s₁.setTop (mkF m 0 #[.val (.ref a1), .val (.long j2), .second, .val (.long j3), .second, .val (.long j4), .second] []))
  obtain ⟨T1, h1, X1, e1, E1, A1, D1, -, st1⟩ := newO X0 hx hZ hown (hw _ (List.mem_of_getElem? (i := 32) rfl)) (hw _ (List.mem_of_getElem? (i := 33) rfl)) (hw _ (List.mem_of_getElem? (i := 30) rfl)) e0 (g := (mkF m 0 #[.val (.ref a1), .val (.long j2), .second, .val (.long j3), .second, .val (.long j4), .second] [])) rfl (hb hby d5_0) (by decide) (by decide)
  obtain ⟨b1, g1⟩ : ∃ z, z = Array.size h0 := ⟨_, rfl⟩
  rw [show Array.size h0 = b1 from g1.symm] at A1 D1 st1
  have le_b1 : Array.size h0 ≤ b1 := Nat.le_of_eq g1.symm
  have sz_b1 : h0.size ≤ b1 := Nat.le_trans (Keep.refl h0 []).1 le_b1
  have g_b1 : n0 ≤ b1 := Nat.le_trans Z0 sz_b1
  have Z2 : n0 ≤ Array.size h1 := Nat.le_trans Z0 E1.1
  have KC2 : Keep h0 h1 [] := (Keep.refl h0 []).ext E1
  have F1_39 : Fld Z h1 b1 "com/example/deioces/deioces/Datagram" "message" "Lcom/example/deioces/deioces/Message;" .null := D1 (Or.inr (hw _ (List.mem_of_getElem? (i := 39) rfl))) (ty := (.object "com/example/deioces/deioces/Message")) (by decide)
  have F1_41 : Fld Z h1 b1 "com/example/deioces/deioces/Datagram" "sent" "J" (.long (0 : Int64)) := D1 (Or.inr (hw _ (List.mem_of_getElem? (i := 41) rfl))) (ty := .long) (by decide)
  have F1_43 : Fld Z h1 b1 "com/example/deioces/deioces/Datagram" "echoes" "Z" (.int (0 : Int32)) := D1 (Or.inr (hw _ (List.mem_of_getElem? (i := 43) rfl))) (ty := .boolean) (by decide)
  have F1_45 : Fld Z h1 b1 "com/example/deioces/deioces/Datagram" "echoed" "J" (.long (0 : Int64)) := D1 (Or.inr (hw _ (List.mem_of_getElem? (i := 45) rfl))) (ty := .long) (by decide)
  have F1_47 : Fld Z h1 b1 "com/example/deioces/deioces/Datagram" "held" "J" (.long (0 : Int64)) := D1 (Or.inr (hw _ (List.mem_of_getElem? (i := 47) rfl))) (ty := .long) (by decide)
  refine own_st st1 ?_
  show own_Fin p e below _ (T1.setTop (mkF m 3 #[.val (.ref a1), .val (.long j2), .second, .val (.long j3), .second, .val (.long j4), .second] [(.ref b1)]))
  refine own_st (fun t k => XS.dup X1.here hx rfl (hb hby d5_3) rfl rfl k) ?_
  show own_Fin p e below _ (T1.setTop (mkF m 4 #[.val (.ref a1), .val (.long j2), .second, .val (.long j3), .second, .val (.long j4), .second] [(.ref b1), (.ref b1)]))
  refine own_st (fun t k => XS.aloadN X1.here hx rfl (hb hby d5_4) rfl rfl k) ?_
  show own_Fin p e below _ (T1.setTop (mkF m 5 #[.val (.ref a1), .val (.long j2), .second, .val (.long j3), .second, .val (.long j4), .second] [(.ref a1), (.ref b1), (.ref b1)]))
  refine own_st (fun t k => XS.lloadN X1.here hx rfl (hb hby d5_5) rfl k) ?_
  show own_Fin p e below _ (T1.setTop (mkF m 6 #[.val (.ref a1), .val (.long j2), .second, .val (.long j3), .second, .val (.long j4), .second] [(.long j2), (.ref a1), (.ref b1), (.ref b1)]))
  refine own_st (fun t k => XS.iconst X1.here hx rfl (hb hby d5_6) k) ?_
  show own_Fin p e below _ (T1.setTop (mkF m 7 #[.val (.ref a1), .val (.long j2), .second, .val (.long j3), .second, .val (.long j4), .second] [(.int (1 : Int32)), (.long j2), (.ref a1), (.ref b1), (.ref b1)]))
  refine own_st (fun t k => XS.lloadN X1.here hx rfl (hb hby d5_7) rfl k) ?_
  show own_Fin p e below _ (T1.setTop (mkF m 8 #[.val (.ref a1), .val (.long j2), .second, .val (.long j3), .second, .val (.long j4), .second] [(.long j3), (.int (1 : Int32)), (.long j2), (.ref a1), (.ref b1), (.ref b1)]))
  refine own_st (fun t k => XS.lload X1.here hx rfl (hb hby d5_8) rfl k) ?_
  show own_Fin p e below _ (T1.setTop (mkF m 10 #[.val (.ref a1), .val (.long j2), .second, .val (.long j3), .second, .val (.long j4), .second] [(.long j4), (.long j3), (.int (1 : Int32)), (.long j2), (.ref a1), (.ref b1), (.ref b1)]))
  obtain ⟨_, _, ⟨T3, L3, k3, n3⟩, -, X3, ⟨Lc3, hQ3, l3, y3, z3⟩, st3⟩ := X1.specialBack hx (y := (⟨"com/example/deioces/deioces/Datagram", "<init>", "(Lcom/example/deioces/deioces/Message;JZJJ)V"⟩ : MethodName)) rfl hown (mvT hZ (hw _ (List.mem_of_getElem? (i := 34) rfl))) (mvT hZ (hw _ (List.mem_of_getElem? (i := 35) rfl))) (mvT hZ (hw _ (List.mem_of_getElem? (i := 36) rfl))) (by decide) (backOf (W := 1) (rm6_4 l Z a0 hw [] b1 a1 j2 j3 j4 h1 n0 Z2 F1_39 A1 g_b1 F1_41 F1_43 F1_45 F1_47) hZ (hw _ (List.mem_of_getElem? (i := 36) rfl)) (hw _ (List.mem_of_getElem? (i := 30) rfl)) (by decide) (by decide)) (g := (mkF m 10 #[.val (.ref a1), .val (.long j2), .second, .val (.long j3), .second, .val (.long j4), .second] [(.long j4), (.long j3), (.int (1 : Int32)), (.long j2), (.ref a1), (.ref b1), (.ref b1)])) rfl (by rw [hml]; rfl) (Steps.refl _) (a := b1) (argsL := [(.ref a1), (.long j2), (.int (1 : Int32)), (.long j3), (.long j4)]) (rest := [(.ref b1)]) (lenOf pd__Lcom_example_deioces_deioces_Message_JZJJ_V rfl) rfl (by show 2 * 0 + _ ≤ _; exact Nat.le_of_eq rfl) (hb hby d5_10) (fun _ _ => ⟨rfl, e1, (by decide : 1 + 0 ≤ _), (by decide : 5 + 0 ≤ _)⟩)
  dsimp only [Pt.U, Pt.locs, Pt.cells, Pt.slots] at X3 l3 y3 z3 st3 hQ3
  subst l3 y3 z3
  obtain ⟨rfl, N3q, K3q, G3_0, G3_1, G3_2, G3_3, G3_4⟩ := hQ3
  have Z4 : n0 ≤ Array.size T3.heap := Nat.le_trans Z2 K3q.1
  have KC4 : Keep h0 T3.heap [] := KC2.trans K3q (allS (Or.inr sz_b1) all0)
  have N3 := Fr.app N0 N3q
  refine own_tr st3 ?_
  show own_Fin p e below _ (T3.setTop (mkF m 13 #[.val (.ref a1), .val (.long j2), .second, .val (.long j3), .second, .val (.long j4), .second] [(.ref b1)]))
  have F5 : Exa Z T3.heap b1 "com/example/deioces/deioces/Datagram" := (A1.keep K3q)
  obtain ⟨fs, hr, hrun, hended, hW, hsame⟩ := X3.leave (v := some (.ref b1)) (fun h => by rw [Bd.returns] at h; cases h)
  have hQf : Q5_5 Z a1 j2 j3 j4 h0 n0 _ T3.heap _ := ⟨b1, rfl, N3, KC4, sz_b1, F5, G3_0, G3_1, G3_2, G3_3, G3_4⟩
  exact ⟨_, _, retOut X3 hx (t := (.object "com/example/deioces/deioces/Datagram")) Bd.returns rfl (Or.inr (Or.inr (Or.inr (Or.inr ⟨rfl, rfl, rfl⟩)))) (hb hby d5_13) hr, hrun, hended, _, _, rfl, hQf, ⟨_, rfl⟩, hW, hsame.mono (by decide) (by decide)⟩
theorem pd__Lcom_example_deioces_deioces_Message_JJJ_Lcom_example_deioces_deioces_Datagram_ : parseMethodDescriptor "(Lcom/example/deioces/deioces/Message;JJJ)Lcom/example/deioces/deioces/Datagram;" = some ⟨[(.object "com/example/deioces/deioces/Message"), .long, .long, .long], some (.object "com/example/deioces/deioces/Datagram")⟩ := by decide +kernel
theorem d7_0 : decode prog_14_method_4_code 0 = .ok (.aload_n 0, 1) := by decide +kernel
theorem d7_1 : decode prog_14_method_4_code 1 = .ok (.getfield 7, 3) := by decide +kernel
theorem d7_4 : decode prog_14_method_4_code 4 = .ok (.areturn, 1) := by decide +kernel
theorem ef_7_R (m : MethodId) (x0 : Addr) : entryFrame m #[(.ref x0)] 1 = mkF m 0 #[.val (.ref x0)] [] := by first | (simp [entryFrame, mkF, argsToLocals, Value.category]; done) | rfl
set_option maxRecDepth 65536 in
set_option maxHeartbeats 40000000 in
theorem rm7_6 (l : Launch) (Z : State) (a0 : Array Value) (hw : ∀ d ∈ tables_1, d.before a0 Z = true) (ws : List Jvm.Cond) (a1 : Addr) (a2 : Addr) (h0 : Heap) (n0 : Nat) (Z0 : n0 ≤ Array.size h0) (P0 : Fld Z h0 a1 "com/example/deioces/deioces/Datagram" "message" "Lcom/example/deioces/deioces/Message;" (.ref a2)) :
    MetFree l (⟨"com/example/deioces/deioces/Datagram", "message", "()Lcom/example/deioces/deioces/Message;"⟩ : MethodName) (head1 (Jvm.Cond.code (⟨"com/example/deioces/deioces/Datagram", "message", "()Lcom/example/deioces/deioces/Message;"⟩ : MethodName) prog_14_method_4_code 1 (some (.object "com/example/deioces/deioces/Message")) :: ws) ({ frames := 0, cells := 0, slots := 0, locals := 0 } : Room)) (fun a U => a = #[(.ref a1)] ∧ Z.Warmed39 U.vm ∧ U.heap = h0) (fun _ _ _ _ _ => True) (fun _ U o U' => ∃ v L, o = .returned v ∧ own_Q h0 n0 (some (.ref a2)) v U'.heap L ∧ FrameEnd U o U' L ({ frames := 0, cells := 0, slots := 0, locals := 0 } : Room).cells ({ frames := 0, cells := 0, slots := 0, locals := 0 } : Room).slots) := by
  refine MetFree.of_bodySF (plainFor_of_name pn_com_example_deioces_deioces_Datagram) hisR ?_
  intro p e s m args below meth c s₁ Bd hml0 hP hK
  obtain ⟨rfl, hZ, hh⟩ := hP
  have hx := Bd.exec
  have hby := Bd.bytes
  have hml : c.maxLocals = 1 := hml0
  have hown : s.vm.findClass "com/example/deioces/deioces/Datagram" = some m.cls := findClass_of_methodNamed Bd.named
  have hnm := (name_of_methodNamed Bd.named Bd.method).1
  have X0 : Stand p l e ({ frames := 0, cells := 0, slots := 0, locals := 0 } : Room) s m #[(.ref a1)] below meth c s₁ [] 0 0 := Stand.of_body Bd
  have e0 : s₁.heap = h0 := by rw [← hh, Bd.state]; rfl
  have N0 := Fr.nil n0
  refine (?_ : own_Fin p e below _ _)
  refine own_st (fun t k => castTop (ef_7_R m a1) k) ?_
  show own_Fin p e below _ (s₁.setTop (mkF m 0 #[.val (.ref a1)] []))
  refine own_st (fun t k => XS.aloadN X0.here hx rfl (hb hby d7_0) rfl rfl k) ?_
  show own_Fin p e below _ (s₁.setTop (mkF m 1 #[.val (.ref a1)] [(.ref a1)]))
  obtain ⟨T1, X1, e1, st1⟩ := getF X0 hx hZ hown (host := "") (Or.inl (hw _ (List.mem_of_getElem? (i := 38) rfl))) Via.refl e0 P0 (g := (mkF m 1 #[.val (.ref a1)] [(.ref a1)])) rfl rfl (hb hby d7_1)
  refine own_st st1 ?_
  show own_Fin p e below _ (T1.setTop (mkF m 4 #[.val (.ref a1)] [(.ref a2)]))
  obtain ⟨fs, hr, hrun, hended, hW, hsame⟩ := X1.leave (v := some (.ref a2)) (fun h => by rw [Bd.returns] at h; cases h)
  exact ⟨_, _, retOut X1 hx (t := (.object "com/example/deioces/deioces/Message")) Bd.returns rfl (Or.inr (Or.inr (Or.inr (Or.inr ⟨rfl, rfl, rfl⟩)))) (hb hby d7_4) hr, hrun, hended, _, _, rfl, ⟨rfl, N0, e1⟩, ⟨_, rfl⟩, hW, hsame.mono (by decide) (by decide)⟩
theorem pd___Lcom_example_deioces_deioces_Message_ : parseMethodDescriptor "()Lcom/example/deioces/deioces/Message;" = some ⟨[], some (.object "com/example/deioces/deioces/Message")⟩ := by decide +kernel
theorem d8_0 : decode prog_31_method_10_code 0 = .ok (.aload_n 1, 1) := by decide +kernel
theorem d8_1 : decode prog_31_method_10_code 1 = .ok (.instanceof 8, 3) := by decide +kernel
theorem d8_4 : decode prog_31_method_10_code 4 = .ok (.ifCond .ne 5, 3) := by decide +kernel
theorem d8_9 : decode prog_31_method_10_code 9 = .ok (.aload_n 1, 1) := by decide +kernel
theorem d8_10 : decode prog_31_method_10_code 10 = .ok (.checkcast 8, 3) := by decide +kernel
theorem d8_13 : decode prog_31_method_10_code 13 = .ok (.astore_n 2, 1) := by decide +kernel
theorem d8_14 : decode prog_31_method_10_code 14 = .ok (.aload_n 0, 1) := by decide +kernel
theorem d8_15 : decode prog_31_method_10_code 15 = .ok (.getfield 7, 3) := by decide +kernel
theorem d8_18 : decode prog_31_method_10_code 18 = .ok (.aload_n 2, 1) := by decide +kernel
theorem d8_19 : decode prog_31_method_10_code 19 = .ok (.getfield 7, 3) := by decide +kernel
theorem d8_22 : decode prog_31_method_10_code 22 = .ok (.if_acmp .ne 41, 3) := by decide +kernel
theorem d8_25 : decode prog_31_method_10_code 25 = .ok (.aload_n 0, 1) := by decide +kernel
theorem d8_26 : decode prog_31_method_10_code 26 = .ok (.getfield 13, 3) := by decide +kernel
theorem d8_29 : decode prog_31_method_10_code 29 = .ok (.aload_n 2, 1) := by decide +kernel
theorem d8_30 : decode prog_31_method_10_code 30 = .ok (.getfield 13, 3) := by decide +kernel
theorem d8_33 : decode prog_31_method_10_code 33 = .ok (.if_icmp .ne 30, 3) := by decide +kernel
theorem d8_36 : decode prog_31_method_10_code 36 = .ok (.aload_n 0, 1) := by decide +kernel
theorem d8_37 : decode prog_31_method_10_code 37 = .ok (.getfield 17, 3) := by decide +kernel
theorem d8_40 : decode prog_31_method_10_code 40 = .ok (.aload_n 2, 1) := by decide +kernel
theorem d8_41 : decode prog_31_method_10_code 41 = .ok (.getfield 17, 3) := by decide +kernel
theorem d8_44 : decode prog_31_method_10_code 44 = .ok (.lcmp, 1) := by decide +kernel
theorem d8_45 : decode prog_31_method_10_code 45 = .ok (.ifCond .ne 18, 3) := by decide +kernel
theorem d8_48 : decode prog_31_method_10_code 48 = .ok (.aload_n 0, 1) := by decide +kernel
theorem d8_49 : decode prog_31_method_10_code 49 = .ok (.getfield 21, 3) := by decide +kernel
theorem d8_52 : decode prog_31_method_10_code 52 = .ok (.aload_n 2, 1) := by decide +kernel
theorem d8_53 : decode prog_31_method_10_code 53 = .ok (.getfield 21, 3) := by decide +kernel
theorem d8_56 : decode prog_31_method_10_code 56 = .ok (.if_icmp .ne 7, 3) := by decide +kernel
theorem d8_59 : decode prog_31_method_10_code 59 = .ok (.iconst 1, 1) := by decide +kernel
theorem d8_60 : decode prog_31_method_10_code 60 = .ok (.goto 4, 3) := by decide +kernel
theorem d8_64 : decode prog_31_method_10_code 64 = .ok (.ireturn, 1) := by decide +kernel
theorem ef_8_RR (m : MethodId) (x0 : Addr) (x1 : Addr) : entryFrame m #[(.ref x0), (.ref x1)] 3 = mkF m 0 #[.val (.ref x0), .val (.ref x1), .unset] [] := by first | (simp [entryFrame, mkF, argsToLocals, Value.category]; done) | rfl
set_option maxRecDepth 65536 in
set_option maxHeartbeats 40000000 in
theorem rm8_7 (l : Launch) (Z : State) (a0 : Array Value) (hw : ∀ d ∈ tables_1, d.before a0 Z = true) (ws : List Jvm.Cond) (a1 : Addr) (a2 : Addr) (i3 : Int32) (j4 : Int64) (h0 : Heap) (n0 : Nat) (Z0 : n0 ≤ Array.size h0) (P0 : Exa Z h0 a1 "com/example/deioces/deioces/Message") (P1 : Fld Z h0 a1 "com/example/deioces/deioces/Message" "kind" "Lcom/example/deioces/deioces/Message$Kind;" (.ref a2)) (P2 : Fld Z h0 a1 "com/example/deioces/deioces/Message" "sender" "I" (.int i3)) (P3 : Fld Z h0 a1 "com/example/deioces/deioces/Message" "stamp" "J" (.long j4)) (P4 : Fld Z h0 a1 "com/example/deioces/deioces/Message" "supportive" "Z" (.int (0 : Int32))) :
    MetFree l (⟨"com/example/deioces/deioces/Message", "equals", "(Ljava/lang/Object;)Z"⟩ : MethodName) (head1 (Jvm.Cond.code (⟨"com/example/deioces/deioces/Message", "equals", "(Ljava/lang/Object;)Z"⟩ : MethodName) prog_31_method_10_code 3 (some .boolean) :: ws) ({ frames := 0, cells := 0, slots := 0, locals := 0 } : Room)) (fun a U => a = #[(.ref a1), (.ref a1)] ∧ Z.Warmed39 U.vm ∧ U.heap = h0) (fun _ _ _ _ _ => True) (fun _ U o U' => ∃ v L, o = .returned v ∧ own_Q h0 n0 (some (.int (1 : Int32))) v U'.heap L ∧ FrameEnd U o U' L ({ frames := 0, cells := 0, slots := 0, locals := 0 } : Room).cells ({ frames := 0, cells := 0, slots := 0, locals := 0 } : Room).slots) := by
  refine MetFree.of_bodySF (plainFor_of_name pn_com_example_deioces_deioces_Message) hisR ?_
  intro p e s m args below meth c s₁ Bd hml0 hP hK
  obtain ⟨rfl, hZ, hh⟩ := hP
  have hx := Bd.exec
  have hby := Bd.bytes
  have hml : c.maxLocals = 3 := hml0
  have hown : s.vm.findClass "com/example/deioces/deioces/Message" = some m.cls := findClass_of_methodNamed Bd.named
  have hnm := (name_of_methodNamed Bd.named Bd.method).1
  have X0 : Stand p l e ({ frames := 0, cells := 0, slots := 0, locals := 0 } : Room) s m #[(.ref a1), (.ref a1)] below meth c s₁ [] 0 0 := Stand.of_body Bd
  have e0 : s₁.heap = h0 := by rw [← hh, Bd.state]; rfl
  have N0 := Fr.nil n0
  refine (?_ : own_Fin p e below _ _)
  refine own_st (fun t k => castTop (ef_8_RR m a1 a1) k) ?_
  show own_Fin p e below _ (s₁.setTop (mkF m 0 #[.val (.ref a1), .val (.ref a1), .unset] []))
  refine own_st (fun t k => XS.aloadN X0.here hx rfl (hb hby d8_0) rfl rfl k) ?_
  show own_Fin p e below _ (s₁.setTop (mkF m 1 #[.val (.ref a1), .val (.ref a1), .unset] [(.ref a1)]))
  obtain ⟨T1, X1, e1, st1⟩ := instY X0 hx hZ hown (hw _ (List.mem_of_getElem? (i := 9) rfl)) e0 (Ins.self P0) (g := (mkF m 1 #[.val (.ref a1), .val (.ref a1), .unset] [(.ref a1)])) rfl rfl (hb hby d8_1)
  refine own_st st1 ?_
  show own_Fin p e below _ (T1.setTop (mkF m 4 #[.val (.ref a1), .val (.ref a1), .unset] [(.int (1 : Int32))]))
  refine own_st (fun t k => XS.ifYes X1.here hx rfl (pc0 := 4) (pc' := 9) rfl (hb hby d8_4) rfl (by decide) (by decide) (by decide) k) ?_
  show own_Fin p e below _ (T1.setTop (mkF m 9 #[.val (.ref a1), .val (.ref a1), .unset] []))
  refine own_st (fun t k => XS.aloadN X1.here hx rfl (hb hby d8_9) rfl rfl k) ?_
  show own_Fin p e below _ (T1.setTop (mkF m 10 #[.val (.ref a1), .val (.ref a1), .unset] [(.ref a1)]))
  obtain ⟨T2, X2, e2, st2⟩ := castY X1 hx hZ hown (hw _ (List.mem_of_getElem? (i := 9) rfl)) e1 (Ins.self P0) (g := (mkF m 10 #[.val (.ref a1), .val (.ref a1), .unset] [(.ref a1)])) rfl rfl (hb hby d8_10)
  refine own_st st2 ?_
  show own_Fin p e below _ (T2.setTop (mkF m 13 #[.val (.ref a1), .val (.ref a1), .unset] [(.ref a1)]))
  refine own_st (fun t k => XS.astoreN X2.here hx rfl (hb hby d8_13) rfl rfl (l' := #[.val (.ref a1), .val (.ref a1), .val (.ref a1)]) rfl k) ?_
  show own_Fin p e below _ (T2.setTop (mkF m 14 #[.val (.ref a1), .val (.ref a1), .val (.ref a1)] []))
  refine own_st (fun t k => XS.aloadN X2.here hx rfl (hb hby d8_14) rfl rfl k) ?_
  show own_Fin p e below _ (T2.setTop (mkF m 15 #[.val (.ref a1), .val (.ref a1), .val (.ref a1)] [(.ref a1)]))
  obtain ⟨T3, X3, e3, st3⟩ := getF X2 hx hZ hown (host := "") (Or.inl (hw _ (List.mem_of_getElem? (i := 20) rfl))) Via.refl e2 P1 (g := (mkF m 15 #[.val (.ref a1), .val (.ref a1), .val (.ref a1)] [(.ref a1)])) rfl rfl (hb hby d8_15)
  refine own_st st3 ?_
  show own_Fin p e below _ (T3.setTop (mkF m 18 #[.val (.ref a1), .val (.ref a1), .val (.ref a1)] [(.ref a2)]))
  refine own_st (fun t k => XS.aloadN X3.here hx rfl (hb hby d8_18) rfl rfl k) ?_
  show own_Fin p e below _ (T3.setTop (mkF m 19 #[.val (.ref a1), .val (.ref a1), .val (.ref a1)] [(.ref a1), (.ref a2)]))
  obtain ⟨T4, X4, e4, st4⟩ := getF X3 hx hZ hown (host := "") (Or.inl (hw _ (List.mem_of_getElem? (i := 20) rfl))) Via.refl e3 P1 (g := (mkF m 19 #[.val (.ref a1), .val (.ref a1), .val (.ref a1)] [(.ref a1), (.ref a2)])) rfl rfl (hb hby d8_19)
  refine own_st st4 ?_
  show own_Fin p e below _ (T4.setTop (mkF m 22 #[.val (.ref a1), .val (.ref a1), .val (.ref a1)] [(.ref a2), (.ref a2)]))
  refine own_st (fun t k => Jvm.RoadKit.acmp (g := (mkF m 22 #[.val (.ref a1), .val (.ref a1), .val (.ref a1)] [(.ref a2), (.ref a2)])) X4 hx rfl rfl rfl (pc0 := 22) (pc' := 25) (same := true) rfl (hb hby d8_22) rfl (decide_eq_true rfl) (by decide) (by decide) k) ?_
  show own_Fin p e below _ (T4.setTop (mkF m 25 #[.val (.ref a1), .val (.ref a1), .val (.ref a1)] []))
  refine own_st (fun t k => XS.aloadN X4.here hx rfl (hb hby d8_25) rfl rfl k) ?_
  show own_Fin p e below _ (T4.setTop (mkF m 26 #[.val (.ref a1), .val (.ref a1), .val (.ref a1)] [(.ref a1)]))
  obtain ⟨T5, X5, e5, st5⟩ := getF X4 hx hZ hown (host := "") (Or.inl (hw _ (List.mem_of_getElem? (i := 22) rfl))) Via.refl e4 P2 (g := (mkF m 26 #[.val (.ref a1), .val (.ref a1), .val (.ref a1)] [(.ref a1)])) rfl rfl (hb hby d8_26)
  refine own_st st5 ?_
  show own_Fin p e below _ (T5.setTop (mkF m 29 #[.val (.ref a1), .val (.ref a1), .val (.ref a1)] [(.int i3)]))
  refine own_st (fun t k => XS.aloadN X5.here hx rfl (hb hby d8_29) rfl rfl k) ?_
  show own_Fin p e below _ (T5.setTop (mkF m 30 #[.val (.ref a1), .val (.ref a1), .val (.ref a1)] [(.ref a1), (.int i3)]))
  obtain ⟨T6, X6, e6, st6⟩ := getF X5 hx hZ hown (host := "") (Or.inl (hw _ (List.mem_of_getElem? (i := 22) rfl))) Via.refl e5 P2 (g := (mkF m 30 #[.val (.ref a1), .val (.ref a1), .val (.ref a1)] [(.ref a1), (.int i3)])) rfl rfl (hb hby d8_30)
  refine own_st st6 ?_
  show own_Fin p e below _ (T6.setTop (mkF m 33 #[.val (.ref a1), .val (.ref a1), .val (.ref a1)] [(.int i3), (.int i3)]))
  refine own_st (fun t k => XS.icmpNo X6.here hx rfl (hb hby d8_33) rfl (teq rfl).2 k) ?_
  show own_Fin p e below _ (T6.setTop (mkF m 36 #[.val (.ref a1), .val (.ref a1), .val (.ref a1)] []))
  refine own_st (fun t k => XS.aloadN X6.here hx rfl (hb hby d8_36) rfl rfl k) ?_
  show own_Fin p e below _ (T6.setTop (mkF m 37 #[.val (.ref a1), .val (.ref a1), .val (.ref a1)] [(.ref a1)]))
  obtain ⟨T7, X7, e7, st7⟩ := getF X6 hx hZ hown (host := "") (Or.inl (hw _ (List.mem_of_getElem? (i := 24) rfl))) Via.refl e6 P3 (g := (mkF m 37 #[.val (.ref a1), .val (.ref a1), .val (.ref a1)] [(.ref a1)])) rfl rfl (hb hby d8_37)
  refine own_st st7 ?_
  show own_Fin p e below _ (T7.setTop (mkF m 40 #[.val (.ref a1), .val (.ref a1), .val (.ref a1)] [(.long j4)]))
  refine own_st (fun t k => XS.aloadN X7.here hx rfl (hb hby d8_40) rfl rfl k) ?_
  show own_Fin p e below _ (T7.setTop (mkF m 41 #[.val (.ref a1), .val (.ref a1), .val (.ref a1)] [(.ref a1), (.long j4)]))
  obtain ⟨T8, X8, e8, st8⟩ := getF X7 hx hZ hown (host := "") (Or.inl (hw _ (List.mem_of_getElem? (i := 24) rfl))) Via.refl e7 P3 (g := (mkF m 41 #[.val (.ref a1), .val (.ref a1), .val (.ref a1)] [(.ref a1), (.long j4)])) rfl rfl (hb hby d8_41)
  refine own_st st8 ?_
  show own_Fin p e below _ (T8.setTop (mkF m 44 #[.val (.ref a1), .val (.ref a1), .val (.ref a1)] [(.long j4), (.long j4)]))
  refine own_st (fun t k => XS.lcmp X8.here hx rfl (hb hby d8_44) rfl k) ?_
  show own_Fin p e below _ (T8.setTop (mkF m 45 #[.val (.ref a1), .val (.ref a1), .val (.ref a1)] [(.int (lcmpW j4 j4))]))
  refine own_st (fun t k => XS.ifNo X8.here hx rfl (hb hby d8_45) rfl ((if0 _ _).trans (teq ((lw_eq j4 j4).2 rfl)).2) k) ?_
  show own_Fin p e below _ (T8.setTop (mkF m 48 #[.val (.ref a1), .val (.ref a1), .val (.ref a1)] []))
  refine own_st (fun t k => XS.aloadN X8.here hx rfl (hb hby d8_48) rfl rfl k) ?_
  show own_Fin p e below _ (T8.setTop (mkF m 49 #[.val (.ref a1), .val (.ref a1), .val (.ref a1)] [(.ref a1)]))
  obtain ⟨T9, X9, e9, st9⟩ := getF X8 hx hZ hown (host := "") (Or.inl (hw _ (List.mem_of_getElem? (i := 26) rfl))) Via.refl e8 P4 (g := (mkF m 49 #[.val (.ref a1), .val (.ref a1), .val (.ref a1)] [(.ref a1)])) rfl rfl (hb hby d8_49)
  refine own_st st9 ?_
  show own_Fin p e below _ (T9.setTop (mkF m 52 #[.val (.ref a1), .val (.ref a1), .val (.ref a1)] [(.int (0 : Int32))]))
  refine own_st (fun t k => XS.aloadN X9.here hx rfl (hb hby d8_52) rfl rfl k) ?_
  show own_Fin p e below _ (T9.setTop (mkF m 53 #[.val (.ref a1), .val (.ref a1), .val (.ref a1)] [(.ref a1), (.int (0 : Int32))]))
  obtain ⟨T10, X10, e10, st10⟩ := getF X9 hx hZ hown (host := "") (Or.inl (hw _ (List.mem_of_getElem? (i := 26) rfl))) Via.refl e9 P4 (g := (mkF m 53 #[.val (.ref a1), .val (.ref a1), .val (.ref a1)] [(.ref a1), (.int (0 : Int32))])) rfl rfl (hb hby d8_53)
  refine own_st st10 ?_
  show own_Fin p e below _ (T10.setTop (mkF m 56 #[.val (.ref a1), .val (.ref a1), .val (.ref a1)] [(.int (0 : Int32)), (.int (0 : Int32))]))
  refine own_st (fun t k => XS.icmpNo X10.here hx rfl (hb hby d8_56) rfl (by decide) k) ?_
  show own_Fin p e below _ (T10.setTop (mkF m 59 #[.val (.ref a1), .val (.ref a1), .val (.ref a1)] []))
  refine own_st (fun t k => XS.iconst X10.here hx rfl (hb hby d8_59) k) ?_
  show own_Fin p e below _ (T10.setTop (mkF m 60 #[.val (.ref a1), .val (.ref a1), .val (.ref a1)] [(.int (1 : Int32))]))
  refine own_st (fun t k => XS.goto X10.here hx rfl (pc0 := 60) (pc' := 64) rfl (hb hby d8_60) (by decide) (by decide) k) ?_
  show own_Fin p e below _ (T10.setTop (mkF m 64 #[.val (.ref a1), .val (.ref a1), .val (.ref a1)] [(.int (1 : Int32))]))
  obtain ⟨fs, hr, hrun, hended, hW, hsame⟩ := X10.leave (v := some (.int (1 : Int32))) (fun h => by rw [Bd.returns] at h; cases h)
  exact ⟨_, _, retN X10 hx (t := .boolean) Bd.returns (by simp) (hb hby d8_64) hr, hrun, hended, _, _, rfl, ⟨rfl, N0, e10⟩, ⟨_, rfl⟩, hW, hsame.mono (by decide) (by decide)⟩
theorem pd__Ljava_lang_Object__Z : parseMethodDescriptor "(Ljava/lang/Object;)Z" = some ⟨[(.object "java/lang/Object")], some .boolean⟩ := by decide +kernel
theorem d9_0 : decode prog_14_method_5_code 0 = .ok (.aload_n 0, 1) := by decide +kernel
theorem d9_1 : decode prog_14_method_5_code 1 = .ok (.getfield 13, 3) := by decide +kernel
theorem d9_4 : decode prog_14_method_5_code 4 = .ok (.lreturn, 1) := by decide +kernel
theorem ef_9_R (m : MethodId) (x0 : Addr) : entryFrame m #[(.ref x0)] 1 = mkF m 0 #[.val (.ref x0)] [] := by first | (simp [entryFrame, mkF, argsToLocals, Value.category]; done) | rfl
set_option maxRecDepth 65536 in
set_option maxHeartbeats 40000000 in
theorem rm9_8 (l : Launch) (Z : State) (a0 : Array Value) (hw : ∀ d ∈ tables_1, d.before a0 Z = true) (ws : List Jvm.Cond) (a1 : Addr) (j2 : Int64) (h0 : Heap) (n0 : Nat) (Z0 : n0 ≤ Array.size h0) (P0 : Fld Z h0 a1 "com/example/deioces/deioces/Datagram" "sent" "J" (.long j2)) :
    MetFree l (⟨"com/example/deioces/deioces/Datagram", "sent", "()J"⟩ : MethodName) (head1 (Jvm.Cond.code (⟨"com/example/deioces/deioces/Datagram", "sent", "()J"⟩ : MethodName) prog_14_method_5_code 1 (some .long) :: ws) ({ frames := 0, cells := 0, slots := 0, locals := 0 } : Room)) (fun a U => a = #[(.ref a1)] ∧ Z.Warmed39 U.vm ∧ U.heap = h0) (fun _ _ _ _ _ => True) (fun _ U o U' => ∃ v L, o = .returned v ∧ own_Q h0 n0 (some (.long j2)) v U'.heap L ∧ FrameEnd U o U' L ({ frames := 0, cells := 0, slots := 0, locals := 0 } : Room).cells ({ frames := 0, cells := 0, slots := 0, locals := 0 } : Room).slots) := by
  refine MetFree.of_bodySF (plainFor_of_name pn_com_example_deioces_deioces_Datagram) hisR ?_
  intro p e s m args below meth c s₁ Bd hml0 hP hK
  obtain ⟨rfl, hZ, hh⟩ := hP
  have hx := Bd.exec
  have hby := Bd.bytes
  have hml : c.maxLocals = 1 := hml0
  have hown : s.vm.findClass "com/example/deioces/deioces/Datagram" = some m.cls := findClass_of_methodNamed Bd.named
  have hnm := (name_of_methodNamed Bd.named Bd.method).1
  have X0 : Stand p l e ({ frames := 0, cells := 0, slots := 0, locals := 0 } : Room) s m #[(.ref a1)] below meth c s₁ [] 0 0 := Stand.of_body Bd
  have e0 : s₁.heap = h0 := by rw [← hh, Bd.state]; rfl
  have N0 := Fr.nil n0
  refine (?_ : own_Fin p e below _ _)
  refine own_st (fun t k => castTop (ef_9_R m a1) k) ?_
  show own_Fin p e below _ (s₁.setTop (mkF m 0 #[.val (.ref a1)] []))
  refine own_st (fun t k => XS.aloadN X0.here hx rfl (hb hby d9_0) rfl rfl k) ?_
  show own_Fin p e below _ (s₁.setTop (mkF m 1 #[.val (.ref a1)] [(.ref a1)]))
  obtain ⟨T1, X1, e1, st1⟩ := getF X0 hx hZ hown (host := "") (Or.inl (hw _ (List.mem_of_getElem? (i := 40) rfl))) Via.refl e0 P0 (g := (mkF m 1 #[.val (.ref a1)] [(.ref a1)])) rfl rfl (hb hby d9_1)
  refine own_st st1 ?_
  show own_Fin p e below _ (T1.setTop (mkF m 4 #[.val (.ref a1)] [(.long j2)]))
  obtain ⟨fs, hr, hrun, hended, hW, hsame⟩ := X1.leave (v := some (.long j2)) (fun h => by rw [Bd.returns] at h; cases h)
  exact ⟨_, _, retOut X1 hx (t := .long) Bd.returns rfl (Or.inr (Or.inl ⟨rfl, rfl, _, rfl⟩)) (hb hby d9_4) hr, hrun, hended, _, _, rfl, ⟨rfl, N0, e1⟩, ⟨_, rfl⟩, hW, hsame.mono (by decide) (by decide)⟩
theorem pd___J : parseMethodDescriptor "()J" = some ⟨[], some .long⟩ := by decide +kernel
theorem d10_0 : decode prog_14_method_6_code 0 = .ok (.aload_n 0, 1) := by decide +kernel
theorem d10_1 : decode prog_14_method_6_code 1 = .ok (.getfield 17, 3) := by decide +kernel
theorem d10_4 : decode prog_14_method_6_code 4 = .ok (.ireturn, 1) := by decide +kernel
theorem ef_10_R (m : MethodId) (x0 : Addr) : entryFrame m #[(.ref x0)] 1 = mkF m 0 #[.val (.ref x0)] [] := by first | (simp [entryFrame, mkF, argsToLocals, Value.category]; done) | rfl
set_option maxRecDepth 65536 in
set_option maxHeartbeats 40000000 in
theorem rm10_9 (l : Launch) (Z : State) (a0 : Array Value) (hw : ∀ d ∈ tables_1, d.before a0 Z = true) (ws : List Jvm.Cond) (a1 : Addr) (h0 : Heap) (n0 : Nat) (Z0 : n0 ≤ Array.size h0) (P0 : Fld Z h0 a1 "com/example/deioces/deioces/Datagram" "echoes" "Z" (.int (1 : Int32))) :
    MetFree l (⟨"com/example/deioces/deioces/Datagram", "echoes", "()Z"⟩ : MethodName) (head1 (Jvm.Cond.code (⟨"com/example/deioces/deioces/Datagram", "echoes", "()Z"⟩ : MethodName) prog_14_method_6_code 1 (some .boolean) :: ws) ({ frames := 0, cells := 0, slots := 0, locals := 0 } : Room)) (fun a U => a = #[(.ref a1)] ∧ Z.Warmed39 U.vm ∧ U.heap = h0) (fun _ _ _ _ _ => True) (fun _ U o U' => ∃ v L, o = .returned v ∧ own_Q h0 n0 (some (.int (1 : Int32))) v U'.heap L ∧ FrameEnd U o U' L ({ frames := 0, cells := 0, slots := 0, locals := 0 } : Room).cells ({ frames := 0, cells := 0, slots := 0, locals := 0 } : Room).slots) := by
  refine MetFree.of_bodySF (plainFor_of_name pn_com_example_deioces_deioces_Datagram) hisR ?_
  intro p e s m args below meth c s₁ Bd hml0 hP hK
  obtain ⟨rfl, hZ, hh⟩ := hP
  have hx := Bd.exec
  have hby := Bd.bytes
  have hml : c.maxLocals = 1 := hml0
  have hown : s.vm.findClass "com/example/deioces/deioces/Datagram" = some m.cls := findClass_of_methodNamed Bd.named
  have hnm := (name_of_methodNamed Bd.named Bd.method).1
  have X0 : Stand p l e ({ frames := 0, cells := 0, slots := 0, locals := 0 } : Room) s m #[(.ref a1)] below meth c s₁ [] 0 0 := Stand.of_body Bd
  have e0 : s₁.heap = h0 := by rw [← hh, Bd.state]; rfl
  have N0 := Fr.nil n0
  refine (?_ : own_Fin p e below _ _)
  refine own_st (fun t k => castTop (ef_10_R m a1) k) ?_
  show own_Fin p e below _ (s₁.setTop (mkF m 0 #[.val (.ref a1)] []))
  refine own_st (fun t k => XS.aloadN X0.here hx rfl (hb hby d10_0) rfl rfl k) ?_
  show own_Fin p e below _ (s₁.setTop (mkF m 1 #[.val (.ref a1)] [(.ref a1)]))
  obtain ⟨T1, X1, e1, st1⟩ := getF X0 hx hZ hown (host := "") (Or.inl (hw _ (List.mem_of_getElem? (i := 42) rfl))) Via.refl e0 P0 (g := (mkF m 1 #[.val (.ref a1)] [(.ref a1)])) rfl rfl (hb hby d10_1)
  refine own_st st1 ?_
  show own_Fin p e below _ (T1.setTop (mkF m 4 #[.val (.ref a1)] [(.int (1 : Int32))]))
  obtain ⟨fs, hr, hrun, hended, hW, hsame⟩ := X1.leave (v := some (.int (1 : Int32))) (fun h => by rw [Bd.returns] at h; cases h)
  exact ⟨_, _, retN X1 hx (t := .boolean) Bd.returns (by simp) (hb hby d10_4) hr, hrun, hended, _, _, rfl, ⟨rfl, N0, e1⟩, ⟨_, rfl⟩, hW, hsame.mono (by decide) (by decide)⟩
theorem pd___Z : parseMethodDescriptor "()Z" = some ⟨[], some .boolean⟩ := by decide +kernel
theorem d11_0 : decode prog_14_method_7_code 0 = .ok (.aload_n 0, 1) := by decide +kernel
theorem d11_1 : decode prog_14_method_7_code 1 = .ok (.getfield 21, 3) := by decide +kernel
theorem d11_4 : decode prog_14_method_7_code 4 = .ok (.lreturn, 1) := by decide +kernel
theorem ef_11_R (m : MethodId) (x0 : Addr) : entryFrame m #[(.ref x0)] 1 = mkF m 0 #[.val (.ref x0)] [] := by first | (simp [entryFrame, mkF, argsToLocals, Value.category]; done) | rfl
set_option maxRecDepth 65536 in
set_option maxHeartbeats 40000000 in
theorem rm11_10 (l : Launch) (Z : State) (a0 : Array Value) (hw : ∀ d ∈ tables_1, d.before a0 Z = true) (ws : List Jvm.Cond) (a1 : Addr) (j2 : Int64) (h0 : Heap) (n0 : Nat) (Z0 : n0 ≤ Array.size h0) (P0 : Fld Z h0 a1 "com/example/deioces/deioces/Datagram" "echoed" "J" (.long j2)) :
    MetFree l (⟨"com/example/deioces/deioces/Datagram", "echoed", "()J"⟩ : MethodName) (head1 (Jvm.Cond.code (⟨"com/example/deioces/deioces/Datagram", "echoed", "()J"⟩ : MethodName) prog_14_method_7_code 1 (some .long) :: ws) ({ frames := 0, cells := 0, slots := 0, locals := 0 } : Room)) (fun a U => a = #[(.ref a1)] ∧ Z.Warmed39 U.vm ∧ U.heap = h0) (fun _ _ _ _ _ => True) (fun _ U o U' => ∃ v L, o = .returned v ∧ own_Q h0 n0 (some (.long j2)) v U'.heap L ∧ FrameEnd U o U' L ({ frames := 0, cells := 0, slots := 0, locals := 0 } : Room).cells ({ frames := 0, cells := 0, slots := 0, locals := 0 } : Room).slots) := by
  refine MetFree.of_bodySF (plainFor_of_name pn_com_example_deioces_deioces_Datagram) hisR ?_
  intro p e s m args below meth c s₁ Bd hml0 hP hK
  obtain ⟨rfl, hZ, hh⟩ := hP
  have hx := Bd.exec
  have hby := Bd.bytes
  have hml : c.maxLocals = 1 := hml0
  have hown : s.vm.findClass "com/example/deioces/deioces/Datagram" = some m.cls := findClass_of_methodNamed Bd.named
  have hnm := (name_of_methodNamed Bd.named Bd.method).1
  have X0 : Stand p l e ({ frames := 0, cells := 0, slots := 0, locals := 0 } : Room) s m #[(.ref a1)] below meth c s₁ [] 0 0 := Stand.of_body Bd
  have e0 : s₁.heap = h0 := by rw [← hh, Bd.state]; rfl
  have N0 := Fr.nil n0
  refine (?_ : own_Fin p e below _ _)
  refine own_st (fun t k => castTop (ef_11_R m a1) k) ?_
  show own_Fin p e below _ (s₁.setTop (mkF m 0 #[.val (.ref a1)] []))
  refine own_st (fun t k => XS.aloadN X0.here hx rfl (hb hby d11_0) rfl rfl k) ?_
  show own_Fin p e below _ (s₁.setTop (mkF m 1 #[.val (.ref a1)] [(.ref a1)]))
  obtain ⟨T1, X1, e1, st1⟩ := getF X0 hx hZ hown (host := "") (Or.inl (hw _ (List.mem_of_getElem? (i := 44) rfl))) Via.refl e0 P0 (g := (mkF m 1 #[.val (.ref a1)] [(.ref a1)])) rfl rfl (hb hby d11_1)
  refine own_st st1 ?_
  show own_Fin p e below _ (T1.setTop (mkF m 4 #[.val (.ref a1)] [(.long j2)]))
  obtain ⟨fs, hr, hrun, hended, hW, hsame⟩ := X1.leave (v := some (.long j2)) (fun h => by rw [Bd.returns] at h; cases h)
  exact ⟨_, _, retOut X1 hx (t := .long) Bd.returns rfl (Or.inr (Or.inl ⟨rfl, rfl, _, rfl⟩)) (hb hby d11_4) hr, hrun, hended, _, _, rfl, ⟨rfl, N0, e1⟩, ⟨_, rfl⟩, hW, hsame.mono (by decide) (by decide)⟩
theorem d12_0 : decode prog_14_method_8_code 0 = .ok (.aload_n 0, 1) := by decide +kernel
theorem d12_1 : decode prog_14_method_8_code 1 = .ok (.getfield 24, 3) := by decide +kernel
theorem d12_4 : decode prog_14_method_8_code 4 = .ok (.lreturn, 1) := by decide +kernel
theorem ef_12_R (m : MethodId) (x0 : Addr) : entryFrame m #[(.ref x0)] 1 = mkF m 0 #[.val (.ref x0)] [] := by first | (simp [entryFrame, mkF, argsToLocals, Value.category]; done) | rfl
set_option maxRecDepth 65536 in
set_option maxHeartbeats 40000000 in
theorem rm12_11 (l : Launch) (Z : State) (a0 : Array Value) (hw : ∀ d ∈ tables_1, d.before a0 Z = true) (ws : List Jvm.Cond) (a1 : Addr) (j2 : Int64) (h0 : Heap) (n0 : Nat) (Z0 : n0 ≤ Array.size h0) (P0 : Fld Z h0 a1 "com/example/deioces/deioces/Datagram" "held" "J" (.long j2)) :
    MetFree l (⟨"com/example/deioces/deioces/Datagram", "held", "()J"⟩ : MethodName) (head1 (Jvm.Cond.code (⟨"com/example/deioces/deioces/Datagram", "held", "()J"⟩ : MethodName) prog_14_method_8_code 1 (some .long) :: ws) ({ frames := 0, cells := 0, slots := 0, locals := 0 } : Room)) (fun a U => a = #[(.ref a1)] ∧ Z.Warmed39 U.vm ∧ U.heap = h0) (fun _ _ _ _ _ => True) (fun _ U o U' => ∃ v L, o = .returned v ∧ own_Q h0 n0 (some (.long j2)) v U'.heap L ∧ FrameEnd U o U' L ({ frames := 0, cells := 0, slots := 0, locals := 0 } : Room).cells ({ frames := 0, cells := 0, slots := 0, locals := 0 } : Room).slots) := by
  refine MetFree.of_bodySF (plainFor_of_name pn_com_example_deioces_deioces_Datagram) hisR ?_
  intro p e s m args below meth c s₁ Bd hml0 hP hK
  obtain ⟨rfl, hZ, hh⟩ := hP
  have hx := Bd.exec
  have hby := Bd.bytes
  have hml : c.maxLocals = 1 := hml0
  have hown : s.vm.findClass "com/example/deioces/deioces/Datagram" = some m.cls := findClass_of_methodNamed Bd.named
  have hnm := (name_of_methodNamed Bd.named Bd.method).1
  have X0 : Stand p l e ({ frames := 0, cells := 0, slots := 0, locals := 0 } : Room) s m #[(.ref a1)] below meth c s₁ [] 0 0 := Stand.of_body Bd
  have e0 : s₁.heap = h0 := by rw [← hh, Bd.state]; rfl
  have N0 := Fr.nil n0
  refine (?_ : own_Fin p e below _ _)
  refine own_st (fun t k => castTop (ef_12_R m a1) k) ?_
  show own_Fin p e below _ (s₁.setTop (mkF m 0 #[.val (.ref a1)] []))
  refine own_st (fun t k => XS.aloadN X0.here hx rfl (hb hby d12_0) rfl rfl k) ?_
  show own_Fin p e below _ (s₁.setTop (mkF m 1 #[.val (.ref a1)] [(.ref a1)]))
  obtain ⟨T1, X1, e1, st1⟩ := getF X0 hx hZ hown (host := "") (Or.inl (hw _ (List.mem_of_getElem? (i := 46) rfl))) Via.refl e0 P0 (g := (mkF m 1 #[.val (.ref a1)] [(.ref a1)])) rfl rfl (hb hby d12_1)
  refine own_st st1 ?_
  show own_Fin p e below _ (T1.setTop (mkF m 4 #[.val (.ref a1)] [(.long j2)]))
  obtain ⟨fs, hr, hrun, hended, hW, hsame⟩ := X1.leave (v := some (.long j2)) (fun h => by rw [Bd.returns] at h; cases h)
  exact ⟨_, _, retOut X1 hx (t := .long) Bd.returns rfl (Or.inr (Or.inl ⟨rfl, rfl, _, rfl⟩)) (hb hby d12_4) hr, hrun, hended, _, _, rfl, ⟨rfl, N0, e1⟩, ⟨_, rfl⟩, hW, hsame.mono (by decide) (by decide)⟩
theorem ef_0_IIJJJJ (m : MethodId) (x0 : Int32) (x1 : Int32) (x2 : Int64) (x3 : Int64) (x4 : Int64) (x5 : Int64) : entryFrame m #[(.int x0), (.int x1), (.long x2), (.long x3), (.long x4), (.long x5)] maxLocals = mkF m 0 #[.val (.int x0), .val (.int x1), .val (.long x2), .second, .val (.long x3), .second, .val (.long x4), .second, .val (.long x5), .second, .unset, .unset, .unset, .unset] [] := by first | (simp [entryFrame, mkF, argsToLocals, Value.category, maxLocals]; done) | rfl
set_option maxRecDepth 65536 in
set_option maxHeartbeats 40000000 in
theorem rm0_c00 (l : Launch) (Z : State) (a0 : Array Value) (hw : ∀ d ∈ tables_1, d.before a0 Z = true) (ws : List Jvm.Cond) (w_ELECTION : Addr) (w_RELEASE : Addr) (w_HEARTBEAT : Addr) (w_REPLY : Addr) (p0 : Int32) (p1 : Int32) (p2 : Int64) (p3 : Int64) (p4 : Int64) (p5 : Int64) (h0 : Heap) (n0 : Nat) (Z0 : n0 ≤ Array.size h0) (PN : own_Pins Z h0 w_ELECTION w_RELEASE w_HEARTBEAT w_REPLY) (q0 : (p0 &&& (3 : Int32)) = (0 : Int32)) :
    MetFree l x (head1 (Jvm.Cond.code x code maxLocals ret :: ws) room_1) (fun a U => a = #[(.int p0), (.int p1), (.long p2), (.long p3), (.long p4), (.long p5)] ∧ Z.Warmed39 U.vm ∧ U.heap = h0) (fun _ _ _ _ _ => True) (fun _ U o U' => ∃ v L, o = .returned v ∧ own_Q0 n0 (some (.int (1 : Int32))) v U'.heap L ∧ FrameEnd U o U' L room_1.cells room_1.slots) := by
  refine MetFree.of_bodySF (plainFor_of_name pn_com_example_deioces_deioces_DatagramEchoingPinLaw) hisR ?_
  intro p e s m args below meth c s₁ Bd hml0 hP hK
  obtain ⟨rfl, hZ, hh⟩ := hP
  have hx := Bd.exec
  have hby := Bd.bytes
  have hml : c.maxLocals = 14 := hml0
  have hown : s.vm.findClass "com/example/deioces/deioces/DatagramEchoingPinLaw" = some m.cls := findClass_of_methodNamed Bd.named
  have hnm := (name_of_methodNamed Bd.named Bd.method).1
  have X0 : Stand p l e room_1 s m #[(.int p0), (.int p1), (.long p2), (.long p3), (.long p4), (.long p5)] below meth c s₁ [] 0 0 := Stand.of_body Bd
  have e0 : s₁.heap = h0 := by rw [← hh, Bd.state]; rfl
  have N0 := Fr.nil n0
  obtain ⟨S_ELECTION, E_ELECTION, S_RELEASE, E_RELEASE, S_HEARTBEAT, E_HEARTBEAT, S_REPLY, E_REPLY⟩ := PN
  refine (?_ : own_Fin p e below _ _)
  refine own_st (fun t k => castTop (ef_0_IIJJJJ m p0 p1 p2 p3 p4 p5) k) ?_
  show own_Fin p e below _ (s₁.setTop (mkF m 0 #[.val (.int p0), .val (.int p1), .val (.long p2), .second, .val (.long p3), .second, .val (.long p4), .second, .val (.long p5), .second, .unset, .unset, .unset, .unset] []))
  refine own_st (fun t k => XS.lload X0.here hx rfl (hb hby at_0) rfl k) ?_
  show own_Fin p e below _ (s₁.setTop (mkF m 2 #[.val (.int p0), .val (.int p1), .val (.long p2), .second, .val (.long p3), .second, .val (.long p4), .second, .val (.long p5), .second, .unset, .unset, .unset, .unset] [(.long p5)]))
  refine own_st (fun t k => X0.ldc2J hx hown (mvT hZ (hw _ (List.mem_of_getElem? (i := 0) rfl))) rfl (hb hby at_2) k) ?_
  show own_Fin p e below _ (s₁.setTop (mkF m 5 #[.val (.int p0), .val (.int p1), .val (.long p2), .second, .val (.long p3), .second, .val (.long p4), .second, .val (.long p5), .second, .unset, .unset, .unset, .unset] [(.long (9223372036854775807 : Int64)), (.long p5)]))
  refine own_st (fun t k => XS.land X0.here hx rfl (hb hby at_5) rfl k) ?_
  show own_Fin p e below _ (s₁.setTop (mkF m 6 #[.val (.int p0), .val (.int p1), .val (.long p2), .second, .val (.long p3), .second, .val (.long p4), .second, .val (.long p5), .second, .unset, .unset, .unset, .unset] [(.long (p5 &&& (9223372036854775807 : Int64)))]))
  refine own_st (fun t k => XS.lstore X0.here hx rfl (hb hby at_6) rfl (l' := #[.val (.int p0), .val (.int p1), .val (.long p2), .second, .val (.long p3), .second, .val (.long p4), .second, .val (.long p5), .second, .val (.long (p5 &&& (9223372036854775807 : Int64))), .second, .unset, .unset]) rfl k) ?_
  show own_Fin p e below _ (s₁.setTop (mkF m 8 #[.val (.int p0), .val (.int p1), .val (.long p2), .second, .val (.long p3), .second, .val (.long p4), .second, .val (.long p5), .second, .val (.long (p5 &&& (9223372036854775807 : Int64))), .second, .unset, .unset] []))
  refine own_st (fun t k => XS.iloadN X0.here hx rfl (hb hby at_8) rfl k) ?_
  show own_Fin p e below _ (s₁.setTop (mkF m 9 #[.val (.int p0), .val (.int p1), .val (.long p2), .second, .val (.long p3), .second, .val (.long p4), .second, .val (.long p5), .second, .val (.long (p5 &&& (9223372036854775807 : Int64))), .second, .unset, .unset] [(.int p0)]))
  refine own_st (fun t k => XS.iloadN X0.here hx rfl (hb hby at_9) rfl k) ?_
  show own_Fin p e below _ (s₁.setTop (mkF m 10 #[.val (.int p0), .val (.int p1), .val (.long p2), .second, .val (.long p3), .second, .val (.long p4), .second, .val (.long p5), .second, .val (.long (p5 &&& (9223372036854775807 : Int64))), .second, .unset, .unset] [(.int p1), (.int p0)]))
  refine own_st (fun t k => XS.lloadN X0.here hx rfl (hb hby at_10) rfl k) ?_
  show own_Fin p e below _ (s₁.setTop (mkF m 11 #[.val (.int p0), .val (.int p1), .val (.long p2), .second, .val (.long p3), .second, .val (.long p4), .second, .val (.long p5), .second, .val (.long (p5 &&& (9223372036854775807 : Int64))), .second, .unset, .unset] [(.long p2), (.int p1), (.int p0)]))
  obtain ⟨_, _, ⟨T1, L1, k1, n1⟩, -, X1, ⟨Lc1, hQ1, l1, y1, z1⟩, st1⟩ := Jvm.LawKit.callS X0 hx (y := (⟨"com/example/deioces/deioces/DatagramEchoingPinLaw", "makeMessage", "(IIJ)Lcom/example/deioces/deioces/Message;"⟩ : MethodName)) hown (mvT hZ (hw _ (List.mem_of_getElem? (i := 1) rfl))) (mvT hZ (hw _ (List.mem_of_getElem? (i := 2) rfl))) (mvT hZ (hw _ (List.mem_of_getElem? (i := 3) rfl))) (mvT hZ (hw _ (List.mem_of_getElem? (i := 4) rfl))) (by decide) (backOf (W := 0) (rm1_3 l Z a0 hw [] p0 p1 p2 w_ELECTION h0 n0 Z0 q0 S_ELECTION) hZ (hw _ (List.mem_of_getElem? (i := 4) rfl)) (hw _ (List.mem_of_getElem? (i := 3) rfl)) (by decide) (by decide)) (g := (mkF m 11 #[.val (.int p0), .val (.int p1), .val (.long p2), .second, .val (.long p3), .second, .val (.long p4), .second, .val (.long p5), .second, .val (.long (p5 &&& (9223372036854775807 : Int64))), .second, .unset, .unset] [(.long p2), (.int p1), (.int p0)])) rfl (by rw [hml]; rfl) (argsL := [(.int p0), (.int p1), (.long p2)]) (rest := []) (lenOf pd__IIJ_Lcom_example_deioces_deioces_Message_ rfl) rfl (by show 2 * 0 + _ ≤ _; exact Nat.le_of_eq rfl) (hb hby at_11) (fun _ _ => ⟨rfl, e0, (by decide : 0 + 1 ≤ _), (by decide : 0 + 4 ≤ _)⟩)
  dsimp only [Pt.U, Pt.locs, Pt.cells, Pt.slots] at X1 l1 y1 z1 st1 hQ1
  subst l1 y1 z1
  obtain ⟨b1_0, rfl, N1q, K1q, le_b1_0, G1_0, G1_1, G1_2, G1_3, G1_4⟩ := hQ1
  have sz_b1_0 : h0.size ≤ b1_0 := Nat.le_trans (Keep.refl h0 []).1 le_b1_0
  have g_b1_0 : n0 ≤ b1_0 := Nat.le_trans Z0 sz_b1_0
  have Z2 : n0 ≤ Array.size T1.heap := Nat.le_trans Z0 K1q.1
  have KC2 : Keep h0 T1.heap [] := (Keep.refl h0 []).trans K1q all0
  have N1 := Fr.app N0 N1q
  refine own_st st1 ?_
  show own_Fin p e below _ (T1.setTop (mkF m 14 #[.val (.int p0), .val (.int p1), .val (.long p2), .second, .val (.long p3), .second, .val (.long p4), .second, .val (.long p5), .second, .val (.long (p5 &&& (9223372036854775807 : Int64))), .second, .unset, .unset] [(.ref b1_0)]))
  refine own_st (fun t k => XS.astore X1.here hx rfl (hb hby at_14) rfl rfl (l' := #[.val (.int p0), .val (.int p1), .val (.long p2), .second, .val (.long p3), .second, .val (.long p4), .second, .val (.long p5), .second, .val (.long (p5 &&& (9223372036854775807 : Int64))), .second, .val (.ref b1_0), .unset]) rfl k) ?_
  show own_Fin p e below _ (T1.setTop (mkF m 16 #[.val (.int p0), .val (.int p1), .val (.long p2), .second, .val (.long p3), .second, .val (.long p4), .second, .val (.long p5), .second, .val (.long (p5 &&& (9223372036854775807 : Int64))), .second, .val (.ref b1_0), .unset] []))
  refine own_st (fun t k => XS.aload X1.here hx rfl (hb hby at_16) rfl rfl k) ?_
  show own_Fin p e below _ (T1.setTop (mkF m 18 #[.val (.int p0), .val (.int p1), .val (.long p2), .second, .val (.long p3), .second, .val (.long p4), .second, .val (.long p5), .second, .val (.long (p5 &&& (9223372036854775807 : Int64))), .second, .val (.ref b1_0), .unset] [(.ref b1_0)]))
  refine own_st (fun t k => XS.lload X1.here hx rfl (hb hby at_18) rfl k) ?_
  show own_Fin p e below _ (T1.setTop (mkF m 20 #[.val (.int p0), .val (.int p1), .val (.long p2), .second, .val (.long p3), .second, .val (.long p4), .second, .val (.long p5), .second, .val (.long (p5 &&& (9223372036854775807 : Int64))), .second, .val (.ref b1_0), .unset] [(.long p3), (.ref b1_0)]))
  refine own_st (fun t k => XS.lload X1.here hx rfl (hb hby at_20) rfl k) ?_
  show own_Fin p e below _ (T1.setTop (mkF m 22 #[.val (.int p0), .val (.int p1), .val (.long p2), .second, .val (.long p3), .second, .val (.long p4), .second, .val (.long p5), .second, .val (.long (p5 &&& (9223372036854775807 : Int64))), .second, .val (.ref b1_0), .unset] [(.long p4), (.long p3), (.ref b1_0)]))
  refine own_st (fun t k => XS.lload X1.here hx rfl (hb hby at_22) rfl k) ?_
  show own_Fin p e below _ (T1.setTop (mkF m 24 #[.val (.int p0), .val (.int p1), .val (.long p2), .second, .val (.long p3), .second, .val (.long p4), .second, .val (.long p5), .second, .val (.long (p5 &&& (9223372036854775807 : Int64))), .second, .val (.ref b1_0), .unset] [(.long (p5 &&& (9223372036854775807 : Int64))), (.long p4), (.long p3), (.ref b1_0)]))
  obtain ⟨_, _, ⟨T3, L3, k3, n3⟩, -, X3, ⟨Lc3, hQ3, l3, y3, z3⟩, st3⟩ := Jvm.LawKit.callS X1 hx (y := (⟨"com/example/deioces/deioces/Datagram", "echoing", "(Lcom/example/deioces/deioces/Message;JJJ)Lcom/example/deioces/deioces/Datagram;"⟩ : MethodName)) hown (mvT hZ (hw _ (List.mem_of_getElem? (i := 28) rfl))) (mvT hZ (hw _ (List.mem_of_getElem? (i := 29) rfl))) (mvT hZ (hw _ (List.mem_of_getElem? (i := 30) rfl))) (mvT hZ (hw _ (List.mem_of_getElem? (i := 31) rfl))) (by decide) (backOf (W := 0) (rm5_5 l Z a0 hw [] b1_0 p3 p4 (p5 &&& (9223372036854775807 : Int64)) T1.heap n0 Z2) hZ (hw _ (List.mem_of_getElem? (i := 31) rfl)) (hw _ (List.mem_of_getElem? (i := 30) rfl)) (by decide) (by decide)) (g := (mkF m 24 #[.val (.int p0), .val (.int p1), .val (.long p2), .second, .val (.long p3), .second, .val (.long p4), .second, .val (.long p5), .second, .val (.long (p5 &&& (9223372036854775807 : Int64))), .second, .val (.ref b1_0), .unset] [(.long (p5 &&& (9223372036854775807 : Int64))), (.long p4), (.long p3), (.ref b1_0)])) rfl (by rw [hml]; rfl) (argsL := [(.ref b1_0), (.long p3), (.long p4), (.long (p5 &&& (9223372036854775807 : Int64)))]) (rest := []) (lenOf pd__Lcom_example_deioces_deioces_Message_JJJ_Lcom_example_deioces_deioces_Datagram_ rfl) rfl (by show 2 * 0 + _ ≤ _; exact Nat.le_of_eq rfl) (hb hby at_24) (fun _ _ => ⟨rfl, rfl, (by decide : 1 + 1 ≤ _), (by decide : 4 + 5 ≤ _)⟩)
  dsimp only [Pt.U, Pt.locs, Pt.cells, Pt.slots] at X3 l3 y3 z3 st3 hQ3
  subst l3 y3 z3
  obtain ⟨b3_0, rfl, N3q, K3q, le_b3_0, G3_0, G3_1, G3_2, G3_3, G3_4, G3_5⟩ := hQ3
  have sz_b3_0 : h0.size ≤ b3_0 := Nat.le_trans KC2.1 le_b3_0
  have g_b3_0 : n0 ≤ b3_0 := Nat.le_trans Z0 sz_b3_0
  have Z4 : n0 ≤ Array.size T3.heap := Nat.le_trans Z2 K3q.1
  have KC4 : Keep h0 T3.heap [] := KC2.trans K3q all0
  have N3 := Fr.app N1 N3q
  refine own_st st3 ?_
  show own_Fin p e below _ (T3.setTop (mkF m 27 #[.val (.int p0), .val (.int p1), .val (.long p2), .second, .val (.long p3), .second, .val (.long p4), .second, .val (.long p5), .second, .val (.long (p5 &&& (9223372036854775807 : Int64))), .second, .val (.ref b1_0), .unset] [(.ref b3_0)]))
  refine own_st (fun t k => XS.astore X3.here hx rfl (hb hby at_27) rfl rfl (l' := #[.val (.int p0), .val (.int p1), .val (.long p2), .second, .val (.long p3), .second, .val (.long p4), .second, .val (.long p5), .second, .val (.long (p5 &&& (9223372036854775807 : Int64))), .second, .val (.ref b1_0), .val (.ref b3_0)]) rfl k) ?_
  show own_Fin p e below _ (T3.setTop (mkF m 29 #[.val (.int p0), .val (.int p1), .val (.long p2), .second, .val (.long p3), .second, .val (.long p4), .second, .val (.long p5), .second, .val (.long (p5 &&& (9223372036854775807 : Int64))), .second, .val (.ref b1_0), .val (.ref b3_0)] []))
  refine own_st (fun t k => XS.aload X3.here hx rfl (hb hby at_29) rfl rfl k) ?_
  show own_Fin p e below _ (T3.setTop (mkF m 31 #[.val (.int p0), .val (.int p1), .val (.long p2), .second, .val (.long p3), .second, .val (.long p4), .second, .val (.long p5), .second, .val (.long (p5 &&& (9223372036854775807 : Int64))), .second, .val (.ref b1_0), .val (.ref b3_0)] [(.ref b3_0)]))
  obtain ⟨cq5, kq5, q5a, q5b, q5c⟩ := isOf hZ rfl G3_0
  obtain ⟨_, _, ⟨T5, L5, k5, n5⟩, -, X5, ⟨Lc5, hQ5, l5, y5, z5⟩, st5⟩ := X3.virtualBack hx (y := (⟨"com/example/deioces/deioces/Datagram", "message", "()Lcom/example/deioces/deioces/Message;"⟩ : MethodName)) (z := (⟨"com/example/deioces/deioces/Datagram", "message", "()Lcom/example/deioces/deioces/Message;"⟩ : MethodName)) hown (mvT hZ (hw _ (List.mem_of_getElem? (i := 48) rfl))) (mvT hZ (hw _ (List.mem_of_getElem? (i := 49) rfl))) (notFace_of_selects (args := #[]) (mvT hZ (hw _ (List.mem_of_getElem? (i := 51) rfl)))) (mvT hZ (hw _ (List.mem_of_getElem? (i := 51) rfl))) (mvT hZ (hw _ (List.mem_of_getElem? (i := 50) rfl))) (by decide) (backOf (W := 0) (rm7_6 l Z a0 hw [] b3_0 b1_0 T3.heap n0 Z4 G3_1) hZ (hw _ (List.mem_of_getElem? (i := 52) rfl)) (hw _ (List.mem_of_getElem? (i := 30) rfl)) (by decide) (by decide)) q5a q5c (g := (mkF m 31 #[.val (.int p0), .val (.int p1), .val (.long p2), .second, .val (.long p3), .second, .val (.long p4), .second, .val (.long p5), .second, .val (.long (p5 &&& (9223372036854775807 : Int64))), .second, .val (.ref b1_0), .val (.ref b3_0)] [(.ref b3_0)])) rfl (by rw [hml]; rfl) (Steps.refl _) (argsL := []) (rest := []) (lenOf pd___Lcom_example_deioces_deioces_Message_ rfl) rfl (by show 2 * 0 + _ ≤ _; exact Nat.le_of_eq rfl) (hb hby at_31) (fun _ _ => ⟨rfl, rfl, (by decide : 2 + 0 ≤ _), (by decide : 9 + 0 ≤ _)⟩)
  dsimp only [Pt.U, Pt.locs, Pt.cells, Pt.slots] at X5 l5 y5 z5 st5 hQ5
  subst l5 y5 z5
  obtain ⟨rfl, N5q, e5⟩ := hQ5
  have N5 := Fr.app N3 N5q
  refine own_tr st5 ?_
  show own_Fin p e below _ (T5.setTop (mkF m 34 #[.val (.int p0), .val (.int p1), .val (.long p2), .second, .val (.long p3), .second, .val (.long p4), .second, .val (.long p5), .second, .val (.long (p5 &&& (9223372036854775807 : Int64))), .second, .val (.ref b1_0), .val (.ref b3_0)] [(.ref b1_0)]))
  refine own_st (fun t k => XS.aload X5.here hx rfl (hb hby at_34) rfl rfl k) ?_
  show own_Fin p e below _ (T5.setTop (mkF m 36 #[.val (.int p0), .val (.int p1), .val (.long p2), .second, .val (.long p3), .second, .val (.long p4), .second, .val (.long p5), .second, .val (.long (p5 &&& (9223372036854775807 : Int64))), .second, .val (.ref b1_0), .val (.ref b3_0)] [(.ref b1_0), (.ref b1_0)]))
  have F7 : Exa Z T3.heap b1_0 "com/example/deioces/deioces/Message" := (G1_0.keep K3q)
  have F8 : Fld Z T3.heap b1_0 "com/example/deioces/deioces/Message" "kind" "Lcom/example/deioces/deioces/Message$Kind;" (.ref w_ELECTION) := (G1_1.keep K3q nin0)
  have F9 : Fld Z T3.heap b1_0 "com/example/deioces/deioces/Message" "sender" "I" (.int p1) := (G1_2.keep K3q nin0)
  have F10 : Fld Z T3.heap b1_0 "com/example/deioces/deioces/Message" "stamp" "J" (.long p2) := (G1_3.keep K3q nin0)
  have F11 : Fld Z T3.heap b1_0 "com/example/deioces/deioces/Message" "supportive" "Z" (.int (0 : Int32)) := (G1_4.keep K3q nin0)
  obtain ⟨cq6, kq6, q6a, q6b, q6c⟩ := isOf hZ e5 F7
  obtain ⟨_, _, ⟨T6, L6, k6, n6⟩, -, X6, ⟨Lc6, hQ6, l6, y6, z6⟩, st6⟩ := X5.virtualBack hx (y := (⟨"com/example/deioces/deioces/Message", "equals", "(Ljava/lang/Object;)Z"⟩ : MethodName)) (z := (⟨"com/example/deioces/deioces/Message", "equals", "(Ljava/lang/Object;)Z"⟩ : MethodName)) hown (mvT hZ (hw _ (List.mem_of_getElem? (i := 53) rfl))) (mvT hZ (hw _ (List.mem_of_getElem? (i := 54) rfl))) (notFace_of_selects (args := #[]) (mvT hZ (hw _ (List.mem_of_getElem? (i := 56) rfl)))) (mvT hZ (hw _ (List.mem_of_getElem? (i := 56) rfl))) (mvT hZ (hw _ (List.mem_of_getElem? (i := 55) rfl))) (by decide) (backOf (W := 0) (rm8_7 l Z a0 hw [] b1_0 w_ELECTION p1 p2 T3.heap n0 Z4 F7 F8 F9 F10 F11) hZ (hw _ (List.mem_of_getElem? (i := 57) rfl)) (hw _ (List.mem_of_getElem? (i := 7) rfl)) (by decide) (by decide)) q6a q6c (g := (mkF m 36 #[.val (.int p0), .val (.int p1), .val (.long p2), .second, .val (.long p3), .second, .val (.long p4), .second, .val (.long p5), .second, .val (.long (p5 &&& (9223372036854775807 : Int64))), .second, .val (.ref b1_0), .val (.ref b3_0)] [(.ref b1_0), (.ref b1_0)])) rfl (by rw [hml]; rfl) (Steps.refl _) (argsL := [(.ref b1_0)]) (rest := []) (lenOf pd__Ljava_lang_Object__Z rfl) rfl (by show 2 * 0 + _ ≤ _; exact Nat.le_of_eq rfl) (hb hby at_36) (fun _ _ => ⟨rfl, e5, (by decide : 2 + 0 ≤ _), (by decide : 9 + 0 ≤ _)⟩)
  dsimp only [Pt.U, Pt.locs, Pt.cells, Pt.slots] at X6 l6 y6 z6 st6 hQ6
  subst l6 y6 z6
  obtain ⟨rfl, N6q, e6⟩ := hQ6
  have N6 := Fr.app N5 N6q
  refine own_tr st6 ?_
  show own_Fin p e below _ (T6.setTop (mkF m 39 #[.val (.int p0), .val (.int p1), .val (.long p2), .second, .val (.long p3), .second, .val (.long p4), .second, .val (.long p5), .second, .val (.long (p5 &&& (9223372036854775807 : Int64))), .second, .val (.ref b1_0), .val (.ref b3_0)] [(.int (1 : Int32))]))
  refine own_st (fun t k => XS.ifNo X6.here hx rfl (hb hby at_39) rfl (by decide) k) ?_
  show own_Fin p e below _ (T6.setTop (mkF m 42 #[.val (.int p0), .val (.int p1), .val (.long p2), .second, .val (.long p3), .second, .val (.long p4), .second, .val (.long p5), .second, .val (.long (p5 &&& (9223372036854775807 : Int64))), .second, .val (.ref b1_0), .val (.ref b3_0)] []))
  refine own_st (fun t k => XS.aload X6.here hx rfl (hb hby at_42) rfl rfl k) ?_
  show own_Fin p e below _ (T6.setTop (mkF m 44 #[.val (.int p0), .val (.int p1), .val (.long p2), .second, .val (.long p3), .second, .val (.long p4), .second, .val (.long p5), .second, .val (.long (p5 &&& (9223372036854775807 : Int64))), .second, .val (.ref b1_0), .val (.ref b3_0)] [(.ref b3_0)]))
  obtain ⟨cq12, kq12, q12a, q12b, q12c⟩ := isOf hZ e6 G3_0
  obtain ⟨_, _, ⟨T12, L12, k12, n12⟩, -, X12, ⟨Lc12, hQ12, l12, y12, z12⟩, st12⟩ := X6.virtualBack hx (y := (⟨"com/example/deioces/deioces/Datagram", "sent", "()J"⟩ : MethodName)) (z := (⟨"com/example/deioces/deioces/Datagram", "sent", "()J"⟩ : MethodName)) hown (mvT hZ (hw _ (List.mem_of_getElem? (i := 59) rfl))) (mvT hZ (hw _ (List.mem_of_getElem? (i := 60) rfl))) (notFace_of_selects (args := #[]) (mvT hZ (hw _ (List.mem_of_getElem? (i := 62) rfl)))) (mvT hZ (hw _ (List.mem_of_getElem? (i := 62) rfl))) (mvT hZ (hw _ (List.mem_of_getElem? (i := 61) rfl))) (by decide) (backOf (W := 0) (rm9_8 l Z a0 hw [] b3_0 p3 T3.heap n0 Z4 G3_2) hZ (hw _ (List.mem_of_getElem? (i := 63) rfl)) (hw _ (List.mem_of_getElem? (i := 30) rfl)) (by decide) (by decide)) q12a q12c (g := (mkF m 44 #[.val (.int p0), .val (.int p1), .val (.long p2), .second, .val (.long p3), .second, .val (.long p4), .second, .val (.long p5), .second, .val (.long (p5 &&& (9223372036854775807 : Int64))), .second, .val (.ref b1_0), .val (.ref b3_0)] [(.ref b3_0)])) rfl (by rw [hml]; rfl) (Steps.refl _) (argsL := []) (rest := []) (lenOf pd___J rfl) rfl (by show 2 * 0 + _ ≤ _; exact Nat.le_of_eq rfl) (hb hby at_44) (fun _ _ => ⟨rfl, e6, (by decide : 2 + 0 ≤ _), (by decide : 9 + 0 ≤ _)⟩)
  dsimp only [Pt.U, Pt.locs, Pt.cells, Pt.slots] at X12 l12 y12 z12 st12 hQ12
  subst l12 y12 z12
  obtain ⟨rfl, N12q, e12⟩ := hQ12
  have N12 := Fr.app N6 N12q
  refine own_tr st12 ?_
  show own_Fin p e below _ (T12.setTop (mkF m 47 #[.val (.int p0), .val (.int p1), .val (.long p2), .second, .val (.long p3), .second, .val (.long p4), .second, .val (.long p5), .second, .val (.long (p5 &&& (9223372036854775807 : Int64))), .second, .val (.ref b1_0), .val (.ref b3_0)] [(.long p3)]))
  refine own_st (fun t k => XS.lload X12.here hx rfl (hb hby at_47) rfl k) ?_
  show own_Fin p e below _ (T12.setTop (mkF m 49 #[.val (.int p0), .val (.int p1), .val (.long p2), .second, .val (.long p3), .second, .val (.long p4), .second, .val (.long p5), .second, .val (.long (p5 &&& (9223372036854775807 : Int64))), .second, .val (.ref b1_0), .val (.ref b3_0)] [(.long p3), (.long p3)]))
  refine own_st (fun t k => XS.lcmp X12.here hx rfl (hb hby at_49) rfl k) ?_
  show own_Fin p e below _ (T12.setTop (mkF m 50 #[.val (.int p0), .val (.int p1), .val (.long p2), .second, .val (.long p3), .second, .val (.long p4), .second, .val (.long p5), .second, .val (.long (p5 &&& (9223372036854775807 : Int64))), .second, .val (.ref b1_0), .val (.ref b3_0)] [(.int (lcmpW p3 p3))]))
  refine own_st (fun t k => XS.ifNo X12.here hx rfl (hb hby at_50) rfl ((if0 _ _).trans (teq ((lw_eq p3 p3).2 rfl)).2) k) ?_
  show own_Fin p e below _ (T12.setTop (mkF m 53 #[.val (.int p0), .val (.int p1), .val (.long p2), .second, .val (.long p3), .second, .val (.long p4), .second, .val (.long p5), .second, .val (.long (p5 &&& (9223372036854775807 : Int64))), .second, .val (.ref b1_0), .val (.ref b3_0)] []))
  refine own_st (fun t k => XS.aload X12.here hx rfl (hb hby at_53) rfl rfl k) ?_
  show own_Fin p e below _ (T12.setTop (mkF m 55 #[.val (.int p0), .val (.int p1), .val (.long p2), .second, .val (.long p3), .second, .val (.long p4), .second, .val (.long p5), .second, .val (.long (p5 &&& (9223372036854775807 : Int64))), .second, .val (.ref b1_0), .val (.ref b3_0)] [(.ref b3_0)]))
  obtain ⟨cq13, kq13, q13a, q13b, q13c⟩ := isOf hZ e12 G3_0
  obtain ⟨_, _, ⟨T13, L13, k13, n13⟩, -, X13, ⟨Lc13, hQ13, l13, y13, z13⟩, st13⟩ := X12.virtualBack hx (y := (⟨"com/example/deioces/deioces/Datagram", "echoes", "()Z"⟩ : MethodName)) (z := (⟨"com/example/deioces/deioces/Datagram", "echoes", "()Z"⟩ : MethodName)) hown (mvT hZ (hw _ (List.mem_of_getElem? (i := 64) rfl))) (mvT hZ (hw _ (List.mem_of_getElem? (i := 65) rfl))) (notFace_of_selects (args := #[]) (mvT hZ (hw _ (List.mem_of_getElem? (i := 67) rfl)))) (mvT hZ (hw _ (List.mem_of_getElem? (i := 67) rfl))) (mvT hZ (hw _ (List.mem_of_getElem? (i := 66) rfl))) (by decide) (backOf (W := 0) (rm10_9 l Z a0 hw [] b3_0 T3.heap n0 Z4 G3_3) hZ (hw _ (List.mem_of_getElem? (i := 68) rfl)) (hw _ (List.mem_of_getElem? (i := 30) rfl)) (by decide) (by decide)) q13a q13c (g := (mkF m 55 #[.val (.int p0), .val (.int p1), .val (.long p2), .second, .val (.long p3), .second, .val (.long p4), .second, .val (.long p5), .second, .val (.long (p5 &&& (9223372036854775807 : Int64))), .second, .val (.ref b1_0), .val (.ref b3_0)] [(.ref b3_0)])) rfl (by rw [hml]; rfl) (Steps.refl _) (argsL := []) (rest := []) (lenOf pd___Z rfl) rfl (by show 2 * 0 + _ ≤ _; exact Nat.le_of_eq rfl) (hb hby at_55) (fun _ _ => ⟨rfl, e12, (by decide : 2 + 0 ≤ _), (by decide : 9 + 0 ≤ _)⟩)
  dsimp only [Pt.U, Pt.locs, Pt.cells, Pt.slots] at X13 l13 y13 z13 st13 hQ13
  subst l13 y13 z13
  obtain ⟨rfl, N13q, e13⟩ := hQ13
  have N13 := Fr.app N12 N13q
  refine own_tr st13 ?_
  show own_Fin p e below _ (T13.setTop (mkF m 58 #[.val (.int p0), .val (.int p1), .val (.long p2), .second, .val (.long p3), .second, .val (.long p4), .second, .val (.long p5), .second, .val (.long (p5 &&& (9223372036854775807 : Int64))), .second, .val (.ref b1_0), .val (.ref b3_0)] [(.int (1 : Int32))]))
  refine own_st (fun t k => XS.ifNo X13.here hx rfl (hb hby at_58) rfl (by decide) k) ?_
  show own_Fin p e below _ (T13.setTop (mkF m 61 #[.val (.int p0), .val (.int p1), .val (.long p2), .second, .val (.long p3), .second, .val (.long p4), .second, .val (.long p5), .second, .val (.long (p5 &&& (9223372036854775807 : Int64))), .second, .val (.ref b1_0), .val (.ref b3_0)] []))
  refine own_st (fun t k => XS.aload X13.here hx rfl (hb hby at_61) rfl rfl k) ?_
  show own_Fin p e below _ (T13.setTop (mkF m 63 #[.val (.int p0), .val (.int p1), .val (.long p2), .second, .val (.long p3), .second, .val (.long p4), .second, .val (.long p5), .second, .val (.long (p5 &&& (9223372036854775807 : Int64))), .second, .val (.ref b1_0), .val (.ref b3_0)] [(.ref b3_0)]))
  obtain ⟨cq14, kq14, q14a, q14b, q14c⟩ := isOf hZ e13 G3_0
  obtain ⟨_, _, ⟨T14, L14, k14, n14⟩, -, X14, ⟨Lc14, hQ14, l14, y14, z14⟩, st14⟩ := X13.virtualBack hx (y := (⟨"com/example/deioces/deioces/Datagram", "echoed", "()J"⟩ : MethodName)) (z := (⟨"com/example/deioces/deioces/Datagram", "echoed", "()J"⟩ : MethodName)) hown (mvT hZ (hw _ (List.mem_of_getElem? (i := 69) rfl))) (mvT hZ (hw _ (List.mem_of_getElem? (i := 70) rfl))) (notFace_of_selects (args := #[]) (mvT hZ (hw _ (List.mem_of_getElem? (i := 72) rfl)))) (mvT hZ (hw _ (List.mem_of_getElem? (i := 72) rfl))) (mvT hZ (hw _ (List.mem_of_getElem? (i := 71) rfl))) (by decide) (backOf (W := 0) (rm11_10 l Z a0 hw [] b3_0 p4 T3.heap n0 Z4 G3_4) hZ (hw _ (List.mem_of_getElem? (i := 73) rfl)) (hw _ (List.mem_of_getElem? (i := 30) rfl)) (by decide) (by decide)) q14a q14c (g := (mkF m 63 #[.val (.int p0), .val (.int p1), .val (.long p2), .second, .val (.long p3), .second, .val (.long p4), .second, .val (.long p5), .second, .val (.long (p5 &&& (9223372036854775807 : Int64))), .second, .val (.ref b1_0), .val (.ref b3_0)] [(.ref b3_0)])) rfl (by rw [hml]; rfl) (Steps.refl _) (argsL := []) (rest := []) (lenOf pd___J rfl) rfl (by show 2 * 0 + _ ≤ _; exact Nat.le_of_eq rfl) (hb hby at_63) (fun _ _ => ⟨rfl, e13, (by decide : 2 + 0 ≤ _), (by decide : 9 + 0 ≤ _)⟩)
  dsimp only [Pt.U, Pt.locs, Pt.cells, Pt.slots] at X14 l14 y14 z14 st14 hQ14
  subst l14 y14 z14
  obtain ⟨rfl, N14q, e14⟩ := hQ14
  have N14 := Fr.app N13 N14q
  refine own_tr st14 ?_
  show own_Fin p e below _ (T14.setTop (mkF m 66 #[.val (.int p0), .val (.int p1), .val (.long p2), .second, .val (.long p3), .second, .val (.long p4), .second, .val (.long p5), .second, .val (.long (p5 &&& (9223372036854775807 : Int64))), .second, .val (.ref b1_0), .val (.ref b3_0)] [(.long p4)]))
  refine own_st (fun t k => XS.lload X14.here hx rfl (hb hby at_66) rfl k) ?_
  show own_Fin p e below _ (T14.setTop (mkF m 68 #[.val (.int p0), .val (.int p1), .val (.long p2), .second, .val (.long p3), .second, .val (.long p4), .second, .val (.long p5), .second, .val (.long (p5 &&& (9223372036854775807 : Int64))), .second, .val (.ref b1_0), .val (.ref b3_0)] [(.long p4), (.long p4)]))
  refine own_st (fun t k => XS.lcmp X14.here hx rfl (hb hby at_68) rfl k) ?_
  show own_Fin p e below _ (T14.setTop (mkF m 69 #[.val (.int p0), .val (.int p1), .val (.long p2), .second, .val (.long p3), .second, .val (.long p4), .second, .val (.long p5), .second, .val (.long (p5 &&& (9223372036854775807 : Int64))), .second, .val (.ref b1_0), .val (.ref b3_0)] [(.int (lcmpW p4 p4))]))
  refine own_st (fun t k => XS.ifNo X14.here hx rfl (hb hby at_69) rfl ((if0 _ _).trans (teq ((lw_eq p4 p4).2 rfl)).2) k) ?_
  show own_Fin p e below _ (T14.setTop (mkF m 72 #[.val (.int p0), .val (.int p1), .val (.long p2), .second, .val (.long p3), .second, .val (.long p4), .second, .val (.long p5), .second, .val (.long (p5 &&& (9223372036854775807 : Int64))), .second, .val (.ref b1_0), .val (.ref b3_0)] []))
  refine own_st (fun t k => XS.aload X14.here hx rfl (hb hby at_72) rfl rfl k) ?_
  show own_Fin p e below _ (T14.setTop (mkF m 74 #[.val (.int p0), .val (.int p1), .val (.long p2), .second, .val (.long p3), .second, .val (.long p4), .second, .val (.long p5), .second, .val (.long (p5 &&& (9223372036854775807 : Int64))), .second, .val (.ref b1_0), .val (.ref b3_0)] [(.ref b3_0)]))
  obtain ⟨cq15, kq15, q15a, q15b, q15c⟩ := isOf hZ e14 G3_0
  obtain ⟨_, _, ⟨T15, L15, k15, n15⟩, -, X15, ⟨Lc15, hQ15, l15, y15, z15⟩, st15⟩ := X14.virtualBack hx (y := (⟨"com/example/deioces/deioces/Datagram", "held", "()J"⟩ : MethodName)) (z := (⟨"com/example/deioces/deioces/Datagram", "held", "()J"⟩ : MethodName)) hown (mvT hZ (hw _ (List.mem_of_getElem? (i := 74) rfl))) (mvT hZ (hw _ (List.mem_of_getElem? (i := 75) rfl))) (notFace_of_selects (args := #[]) (mvT hZ (hw _ (List.mem_of_getElem? (i := 77) rfl)))) (mvT hZ (hw _ (List.mem_of_getElem? (i := 77) rfl))) (mvT hZ (hw _ (List.mem_of_getElem? (i := 76) rfl))) (by decide) (backOf (W := 0) (rm12_11 l Z a0 hw [] b3_0 (p5 &&& (9223372036854775807 : Int64)) T3.heap n0 Z4 G3_5) hZ (hw _ (List.mem_of_getElem? (i := 78) rfl)) (hw _ (List.mem_of_getElem? (i := 30) rfl)) (by decide) (by decide)) q15a q15c (g := (mkF m 74 #[.val (.int p0), .val (.int p1), .val (.long p2), .second, .val (.long p3), .second, .val (.long p4), .second, .val (.long p5), .second, .val (.long (p5 &&& (9223372036854775807 : Int64))), .second, .val (.ref b1_0), .val (.ref b3_0)] [(.ref b3_0)])) rfl (by rw [hml]; rfl) (Steps.refl _) (argsL := []) (rest := []) (lenOf pd___J rfl) rfl (by show 2 * 0 + _ ≤ _; exact Nat.le_of_eq rfl) (hb hby at_74) (fun _ _ => ⟨rfl, e14, (by decide : 2 + 0 ≤ _), (by decide : 9 + 0 ≤ _)⟩)
  dsimp only [Pt.U, Pt.locs, Pt.cells, Pt.slots] at X15 l15 y15 z15 st15 hQ15
  subst l15 y15 z15
  obtain ⟨rfl, N15q, e15⟩ := hQ15
  have N15 := Fr.app N14 N15q
  refine own_tr st15 ?_
  show own_Fin p e below _ (T15.setTop (mkF m 77 #[.val (.int p0), .val (.int p1), .val (.long p2), .second, .val (.long p3), .second, .val (.long p4), .second, .val (.long p5), .second, .val (.long (p5 &&& (9223372036854775807 : Int64))), .second, .val (.ref b1_0), .val (.ref b3_0)] [(.long (p5 &&& (9223372036854775807 : Int64)))]))
  refine own_st (fun t k => XS.lload X15.here hx rfl (hb hby at_77) rfl k) ?_
  show own_Fin p e below _ (T15.setTop (mkF m 79 #[.val (.int p0), .val (.int p1), .val (.long p2), .second, .val (.long p3), .second, .val (.long p4), .second, .val (.long p5), .second, .val (.long (p5 &&& (9223372036854775807 : Int64))), .second, .val (.ref b1_0), .val (.ref b3_0)] [(.long (p5 &&& (9223372036854775807 : Int64))), (.long (p5 &&& (9223372036854775807 : Int64)))]))
  refine own_st (fun t k => XS.lcmp X15.here hx rfl (hb hby at_79) rfl k) ?_
  show own_Fin p e below _ (T15.setTop (mkF m 80 #[.val (.int p0), .val (.int p1), .val (.long p2), .second, .val (.long p3), .second, .val (.long p4), .second, .val (.long p5), .second, .val (.long (p5 &&& (9223372036854775807 : Int64))), .second, .val (.ref b1_0), .val (.ref b3_0)] [(.int (lcmpW (p5 &&& (9223372036854775807 : Int64)) (p5 &&& (9223372036854775807 : Int64))))]))
  refine own_st (fun t k => XS.ifNo X15.here hx rfl (hb hby at_80) rfl ((if0 _ _).trans (teq ((lw_eq (p5 &&& (9223372036854775807 : Int64)) (p5 &&& (9223372036854775807 : Int64))).2 rfl)).2) k) ?_
  show own_Fin p e below _ (T15.setTop (mkF m 83 #[.val (.int p0), .val (.int p1), .val (.long p2), .second, .val (.long p3), .second, .val (.long p4), .second, .val (.long p5), .second, .val (.long (p5 &&& (9223372036854775807 : Int64))), .second, .val (.ref b1_0), .val (.ref b3_0)] []))
  refine own_st (fun t k => XS.iconst X15.here hx rfl (hb hby at_83) k) ?_
  show own_Fin p e below _ (T15.setTop (mkF m 84 #[.val (.int p0), .val (.int p1), .val (.long p2), .second, .val (.long p3), .second, .val (.long p4), .second, .val (.long p5), .second, .val (.long (p5 &&& (9223372036854775807 : Int64))), .second, .val (.ref b1_0), .val (.ref b3_0)] [(.int (1 : Int32))]))
  refine own_st (fun t k => XS.goto X15.here hx rfl (pc0 := 84) (pc' := 88) rfl (hb hby at_84) (by decide) (by decide) k) ?_
  show own_Fin p e below _ (T15.setTop (mkF m 88 #[.val (.int p0), .val (.int p1), .val (.long p2), .second, .val (.long p3), .second, .val (.long p4), .second, .val (.long p5), .second, .val (.long (p5 &&& (9223372036854775807 : Int64))), .second, .val (.ref b1_0), .val (.ref b3_0)] [(.int (1 : Int32))]))
  obtain ⟨fs, hr, hrun, hended, hW, hsame⟩ := X15.leave (v := some (.int (1 : Int32))) (fun h => by rw [Bd.returns] at h; cases h)
  exact ⟨_, _, retN X15 hx (t := .boolean) Bd.returns (by simp) (hb hby at_88) hr, hrun, hended, _, _, rfl, ⟨rfl, N15⟩, ⟨_, rfl⟩, hW, hsame.mono (by decide) (by decide)⟩
theorem d1_16 : decode method_2_code 16 = .ok (.iload 4, 2) := by decide +kernel
theorem d1_18 : decode method_2_code 18 = .ok (.iconst 1, 1) := by decide +kernel
theorem d1_19 : decode method_2_code 19 = .ok (.if_icmp .ne 20, 3) := by decide +kernel
theorem d1_22 : decode method_2_code 22 = .ok (.iload_n 1, 1) := by decide +kernel
theorem d1_23 : decode method_2_code 23 = .ok (.lload_n 2, 1) := by decide +kernel
theorem d1_24 : decode method_2_code 24 = .ok (.iload_n 0, 1) := by decide +kernel
theorem d1_25 : decode method_2_code 25 = .ok (.iconst 4, 1) := by decide +kernel
theorem d1_26 : decode method_2_code 26 = .ok (.iand, 1) := by decide +kernel
theorem d1_27 : decode method_2_code 27 = .ok (.ifCond .eq 7, 3) := by decide +kernel
theorem d1_34 : decode method_2_code 34 = .ok (.iconst 0, 1) := by decide +kernel
theorem d1_35 : decode method_2_code 35 = .ok (.invokestatic 13, 3) := by decide +kernel
theorem d15_0 : decode prog_31_method_3_code 0 = .ok (.new 8, 3) := by decide +kernel
theorem d15_3 : decode prog_31_method_3_code 3 = .ok (.dup, 1) := by decide +kernel
theorem d15_4 : decode prog_31_method_3_code 4 = .ok (.getstatic 33, 3) := by decide +kernel
theorem d15_7 : decode prog_31_method_3_code 7 = .ok (.iload_n 0, 1) := by decide +kernel
theorem d15_8 : decode prog_31_method_3_code 8 = .ok (.lload_n 1, 1) := by decide +kernel
theorem d15_9 : decode prog_31_method_3_code 9 = .ok (.iload_n 3, 1) := by decide +kernel
theorem d15_10 : decode prog_31_method_3_code 10 = .ok (.invokespecial 30, 3) := by decide +kernel
theorem d15_13 : decode prog_31_method_3_code 13 = .ok (.areturn, 1) := by decide +kernel
theorem ef_15_IJI (m : MethodId) (x0 : Int32) (x1 : Int64) (x2 : Int32) : entryFrame m #[(.int x0), (.long x1), (.int x2)] 4 = mkF m 0 #[.val (.int x0), .val (.long x1), .second, .val (.int x2)] [] := by first | (simp [entryFrame, mkF, argsToLocals, Value.category]; done) | rfl
def Q15_12 (Z : State) (i1 : Int32) (j2 : Int64) (a3 : Addr) (h0 : Heap) (n0 : Nat) (v : Option Value) (h : Heap) (L : List Loc) : Prop := ∃ b1 : Addr, v = some (.ref b1) ∧ Fr n0 L ∧ Keep h0 h [] ∧ Array.size h0 ≤ b1 ∧ Exa Z h b1 "com/example/deioces/deioces/Message" ∧ Fld Z h b1 "com/example/deioces/deioces/Message" "kind" "Lcom/example/deioces/deioces/Message$Kind;" (.ref a3) ∧ Fld Z h b1 "com/example/deioces/deioces/Message" "sender" "I" (.int i1) ∧ Fld Z h b1 "com/example/deioces/deioces/Message" "stamp" "J" (.long j2) ∧ Fld Z h b1 "com/example/deioces/deioces/Message" "supportive" "Z" (.int (0 : Int32))
set_option maxRecDepth 65536 in
set_option maxHeartbeats 40000000 in
theorem rm15_12 (l : Launch) (Z : State) (a0 : Array Value) (hw : ∀ d ∈ tables_1, d.before a0 Z = true) (ws : List Jvm.Cond) (i1 : Int32) (j2 : Int64) (a3 : Addr) (h0 : Heap) (n0 : Nat) (Z0 : n0 ≤ Array.size h0) (P0 : Sta Z h0 "com/example/deioces/deioces/Message$Kind" "REPLY" "Lcom/example/deioces/deioces/Message$Kind;" (.ref a3)) :
    MetFree l (⟨"com/example/deioces/deioces/Message", "reply", "(IJZ)Lcom/example/deioces/deioces/Message;"⟩ : MethodName) (head1 (Jvm.Cond.code (⟨"com/example/deioces/deioces/Message", "reply", "(IJZ)Lcom/example/deioces/deioces/Message;"⟩ : MethodName) prog_31_method_3_code 4 (some (.object "com/example/deioces/deioces/Message")) :: ws) ({ frames := 2, cells := 1, slots := 4, locals := 30 } : Room)) (fun a U => a = #[(.int i1), (.long j2), (.int (0 : Int32))] ∧ Z.Warmed39 U.vm ∧ U.heap = h0) (fun _ _ _ _ _ => True) (fun _ U o U' => ∃ v L, o = .returned v ∧ Q15_12 Z i1 j2 a3 h0 n0 v U'.heap L ∧ FrameEnd U o U' L ({ frames := 2, cells := 1, slots := 4, locals := 30 } : Room).cells ({ frames := 2, cells := 1, slots := 4, locals := 30 } : Room).slots) := by
  refine MetFree.of_bodySF (plainFor_of_name pn_com_example_deioces_deioces_Message) hisR ?_
  intro p e s m args below meth c s₁ Bd hml0 hP hK
  obtain ⟨rfl, hZ, hh⟩ := hP
  have hx := Bd.exec
  have hby := Bd.bytes
  have hml : c.maxLocals = 4 := hml0
  have hown : s.vm.findClass "com/example/deioces/deioces/Message" = some m.cls := findClass_of_methodNamed Bd.named
  have hnm := (name_of_methodNamed Bd.named Bd.method).1
  have X0 : Stand p l e ({ frames := 2, cells := 1, slots := 4, locals := 30 } : Room) s m #[(.int i1), (.long j2), (.int (0 : Int32))] below meth c s₁ [] 0 0 := Stand.of_body Bd
  have e0 : s₁.heap = h0 := by rw [← hh, Bd.state]; rfl
  have N0 := Fr.nil n0
  refine (?_ : own_Fin p e below _ _)
  refine own_st (fun t k => castTop (ef_15_IJI m i1 j2 (0 : Int32)) k) ?_
  show own_Fin p e below _ (s₁.setTop (mkF m 0 #[.val (.int i1), .val (.long j2), .second, .val (.int (0 : Int32))] []))
  obtain ⟨T1, h1, X1, e1, E1, A1, D1, -, st1⟩ := newO X0 hx hZ hown (hw _ (List.mem_of_getElem? (i := 9) rfl)) (hw _ (List.mem_of_getElem? (i := 10) rfl)) (hw _ (List.mem_of_getElem? (i := 7) rfl)) e0 (g := (mkF m 0 #[.val (.int i1), .val (.long j2), .second, .val (.int (0 : Int32))] [])) rfl (hb hby d15_0) (by decide) (by decide)
  obtain ⟨b1, g1⟩ : ∃ z, z = Array.size h0 := ⟨_, rfl⟩
  rw [show Array.size h0 = b1 from g1.symm] at A1 D1 st1
  have le_b1 : Array.size h0 ≤ b1 := Nat.le_of_eq g1.symm
  have sz_b1 : h0.size ≤ b1 := Nat.le_trans (Keep.refl h0 []).1 le_b1
  have g_b1 : n0 ≤ b1 := Nat.le_trans Z0 sz_b1
  have Z2 : n0 ≤ Array.size h1 := Nat.le_trans Z0 E1.1
  have KC2 : Keep h0 h1 [] := (Keep.refl h0 []).ext E1
  have F1_21 : Fld Z h1 b1 "com/example/deioces/deioces/Message" "kind" "Lcom/example/deioces/deioces/Message$Kind;" .null := D1 (Or.inr (hw _ (List.mem_of_getElem? (i := 21) rfl))) (ty := (.object "com/example/deioces/deioces/Message$Kind")) (by decide)
  have F1_23 : Fld Z h1 b1 "com/example/deioces/deioces/Message" "sender" "I" (.int (0 : Int32)) := D1 (Or.inr (hw _ (List.mem_of_getElem? (i := 23) rfl))) (ty := .int) (by decide)
  have F1_25 : Fld Z h1 b1 "com/example/deioces/deioces/Message" "stamp" "J" (.long (0 : Int64)) := D1 (Or.inr (hw _ (List.mem_of_getElem? (i := 25) rfl))) (ty := .long) (by decide)
  have F1_27 : Fld Z h1 b1 "com/example/deioces/deioces/Message" "supportive" "Z" (.int (0 : Int32)) := D1 (Or.inr (hw _ (List.mem_of_getElem? (i := 27) rfl))) (ty := .boolean) (by decide)
  refine own_st st1 ?_
  show own_Fin p e below _ (T1.setTop (mkF m 3 #[.val (.int i1), .val (.long j2), .second, .val (.int (0 : Int32))] [(.ref b1)]))
  refine own_st (fun t k => XS.dup X1.here hx rfl (hb hby d15_3) rfl rfl k) ?_
  show own_Fin p e below _ (T1.setTop (mkF m 4 #[.val (.int i1), .val (.long j2), .second, .val (.int (0 : Int32))] [(.ref b1), (.ref b1)]))
  have F3 : Sta Z h1 "com/example/deioces/deioces/Message$Kind" "REPLY" "Lcom/example/deioces/deioces/Message$Kind;" (.ref a3) := (P0.ext E1)
  obtain ⟨T4, X4, e4, st4⟩ := getS2 X1 hx hZ hown (host := "") (Or.inl (hw _ (List.mem_of_getElem? (i := 92) rfl))) Via.refl e1 F3 (g := (mkF m 4 #[.val (.int i1), .val (.long j2), .second, .val (.int (0 : Int32))] [(.ref b1), (.ref b1)])) rfl (hb hby d15_4)
  refine own_st st4 ?_
  show own_Fin p e below _ (T4.setTop (mkF m 7 #[.val (.int i1), .val (.long j2), .second, .val (.int (0 : Int32))] [(.ref a3), (.ref b1), (.ref b1)]))
  refine own_st (fun t k => XS.iloadN X4.here hx rfl (hb hby d15_7) rfl k) ?_
  show own_Fin p e below _ (T4.setTop (mkF m 8 #[.val (.int i1), .val (.long j2), .second, .val (.int (0 : Int32))] [(.int i1), (.ref a3), (.ref b1), (.ref b1)]))
  refine own_st (fun t k => XS.lloadN X4.here hx rfl (hb hby d15_8) rfl k) ?_
  show own_Fin p e below _ (T4.setTop (mkF m 9 #[.val (.int i1), .val (.long j2), .second, .val (.int (0 : Int32))] [(.long j2), (.int i1), (.ref a3), (.ref b1), (.ref b1)]))
  refine own_st (fun t k => XS.iloadN X4.here hx rfl (hb hby d15_9) rfl k) ?_
  show own_Fin p e below _ (T4.setTop (mkF m 10 #[.val (.int i1), .val (.long j2), .second, .val (.int (0 : Int32))] [(.int (0 : Int32)), (.long j2), (.int i1), (.ref a3), (.ref b1), (.ref b1)]))
  obtain ⟨_, _, ⟨T5, L5, k5, n5⟩, -, X5, ⟨Lc5, hQ5, l5, y5, z5⟩, st5⟩ := X4.specialBack hx (y := (⟨"com/example/deioces/deioces/Message", "<init>", "(Lcom/example/deioces/deioces/Message$Kind;IJZ)V"⟩ : MethodName)) rfl hown (mvT hZ (hw _ (List.mem_of_getElem? (i := 14) rfl))) (mvT hZ (hw _ (List.mem_of_getElem? (i := 15) rfl))) (mvT hZ (hw _ (List.mem_of_getElem? (i := 16) rfl))) (by decide) (backOf (W := 1) (rm3_1 l Z a0 hw [] b1 a3 i1 j2 h1 n0 Z2 F1_21 A1 g_b1 F1_23 F1_25 F1_27) hZ (hw _ (List.mem_of_getElem? (i := 16) rfl)) (hw _ (List.mem_of_getElem? (i := 7) rfl)) (by decide) (by decide)) (g := (mkF m 10 #[.val (.int i1), .val (.long j2), .second, .val (.int (0 : Int32))] [(.int (0 : Int32)), (.long j2), (.int i1), (.ref a3), (.ref b1), (.ref b1)])) rfl (by rw [hml]; rfl) (Steps.refl _) (a := b1) (argsL := [(.ref a3), (.int i1), (.long j2), (.int (0 : Int32))]) (rest := [(.ref b1)]) (lenOf pd__Lcom_example_deioces_deioces_Message_Kind_IJZ_V rfl) rfl (by show 2 * 0 + _ ≤ _; exact Nat.le_of_eq rfl) (hb hby d15_10) (fun _ _ => ⟨rfl, e4, (by decide : 1 + 0 ≤ _), (by decide : 4 + 0 ≤ _)⟩)
  dsimp only [Pt.U, Pt.locs, Pt.cells, Pt.slots] at X5 l5 y5 z5 st5 hQ5
  subst l5 y5 z5
  obtain ⟨rfl, N5q, K5q, G5_0, G5_1, G5_2, G5_3⟩ := hQ5
  have Z6 : n0 ≤ Array.size T5.heap := Nat.le_trans Z2 K5q.1
  have KC6 : Keep h0 T5.heap [] := KC2.trans K5q (allS (Or.inr sz_b1) all0)
  have N5 := Fr.app N0 N5q
  refine own_tr st5 ?_
  show own_Fin p e below _ (T5.setTop (mkF m 13 #[.val (.int i1), .val (.long j2), .second, .val (.int (0 : Int32))] [(.ref b1)]))
  have F7 : Exa Z T5.heap b1 "com/example/deioces/deioces/Message" := (A1.keep K5q)
  obtain ⟨fs, hr, hrun, hended, hW, hsame⟩ := X5.leave (v := some (.ref b1)) (fun h => by rw [Bd.returns] at h; cases h)
  have hQf : Q15_12 Z i1 j2 a3 h0 n0 _ T5.heap _ := ⟨b1, rfl, N5, KC6, sz_b1, F7, G5_0, G5_1, G5_2, G5_3⟩
  exact ⟨_, _, retOut X5 hx (t := (.object "com/example/deioces/deioces/Message")) Bd.returns rfl (Or.inr (Or.inr (Or.inr (Or.inr ⟨rfl, rfl, rfl⟩)))) (hb hby d15_13) hr, hrun, hended, _, _, rfl, hQf, ⟨_, rfl⟩, hW, hsame.mono (by decide) (by decide)⟩
theorem pd__IJZ_Lcom_example_deioces_deioces_Message_ : parseMethodDescriptor "(IJZ)Lcom/example/deioces/deioces/Message;" = some ⟨[.int, .long, .boolean], some (.object "com/example/deioces/deioces/Message")⟩ := by decide +kernel
theorem d1_38 : decode method_2_code 38 = .ok (.areturn, 1) := by decide +kernel
def Q1_13 (Z : State) (i1 : Int32) (i2 : Int32) (j3 : Int64) (a4 : Addr) (h0 : Heap) (n0 : Nat) (v : Option Value) (h : Heap) (L : List Loc) : Prop := ∃ b1_0 : Addr, v = some (.ref b1_0) ∧ Fr n0 L ∧ Keep h0 h [] ∧ Array.size h0 ≤ b1_0 ∧ Exa Z h b1_0 "com/example/deioces/deioces/Message" ∧ Fld Z h b1_0 "com/example/deioces/deioces/Message" "kind" "Lcom/example/deioces/deioces/Message$Kind;" (.ref a4) ∧ Fld Z h b1_0 "com/example/deioces/deioces/Message" "sender" "I" (.int i2) ∧ Fld Z h b1_0 "com/example/deioces/deioces/Message" "stamp" "J" (.long j3) ∧ Fld Z h b1_0 "com/example/deioces/deioces/Message" "supportive" "Z" (.int (0 : Int32))
set_option maxRecDepth 65536 in
set_option maxHeartbeats 40000000 in
theorem rm1_13 (l : Launch) (Z : State) (a0 : Array Value) (hw : ∀ d ∈ tables_1, d.before a0 Z = true) (ws : List Jvm.Cond) (i1 : Int32) (i2 : Int32) (j3 : Int64) (a4 : Addr) (h0 : Heap) (n0 : Nat) (Z0 : n0 ≤ Array.size h0) (P0 : (i1 &&& (3 : Int32)) = (1 : Int32)) (P1 : (i1 &&& (4 : Int32)) = (0 : Int32)) (P2 : Sta Z h0 "com/example/deioces/deioces/Message$Kind" "REPLY" "Lcom/example/deioces/deioces/Message$Kind;" (.ref a4)) :
    MetFree l (⟨"com/example/deioces/deioces/DatagramEchoingPinLaw", "makeMessage", "(IIJ)Lcom/example/deioces/deioces/Message;"⟩ : MethodName) (head1 (Jvm.Cond.code (⟨"com/example/deioces/deioces/DatagramEchoingPinLaw", "makeMessage", "(IIJ)Lcom/example/deioces/deioces/Message;"⟩ : MethodName) method_2_code 5 (some (.object "com/example/deioces/deioces/Message")) :: ws) ({ frames := 3, cells := 1, slots := 4, locals := 45 } : Room)) (fun a U => a = #[(.int i1), (.int i2), (.long j3)] ∧ Z.Warmed39 U.vm ∧ U.heap = h0) (fun _ _ _ _ _ => True) (fun _ U o U' => ∃ v L, o = .returned v ∧ Q1_13 Z i1 i2 j3 a4 h0 n0 v U'.heap L ∧ FrameEnd U o U' L ({ frames := 3, cells := 1, slots := 4, locals := 45 } : Room).cells ({ frames := 3, cells := 1, slots := 4, locals := 45 } : Room).slots) := by
  refine MetFree.of_bodySF (plainFor_of_name pn_com_example_deioces_deioces_DatagramEchoingPinLaw) hisR ?_
  intro p e s m args below meth c s₁ Bd hml0 hP hK
  obtain ⟨rfl, hZ, hh⟩ := hP
  have hx := Bd.exec
  have hby := Bd.bytes
  have hml : c.maxLocals = 5 := hml0
  have hown : s.vm.findClass "com/example/deioces/deioces/DatagramEchoingPinLaw" = some m.cls := findClass_of_methodNamed Bd.named
  have hnm := (name_of_methodNamed Bd.named Bd.method).1
  have X0 : Stand p l e ({ frames := 3, cells := 1, slots := 4, locals := 45 } : Room) s m #[(.int i1), (.int i2), (.long j3)] below meth c s₁ [] 0 0 := Stand.of_body Bd
  have e0 : s₁.heap = h0 := by rw [← hh, Bd.state]; rfl
  have N0 := Fr.nil n0
  refine (?_ : own_Fin p e below _ _)
  refine own_st (fun t k => castTop (ef_1_IIJ m i1 i2 j3) k) ?_
  show own_Fin p e below _ (s₁.setTop (mkF m 0 #[.val (.int i1), .val (.int i2), .val (.long j3), .second, .unset] []))
  refine own_st (fun t k => XS.iloadN X0.here hx rfl (hb hby d1_0) rfl k) ?_
  show own_Fin p e below _ (s₁.setTop (mkF m 1 #[.val (.int i1), .val (.int i2), .val (.long j3), .second, .unset] [(.int i1)]))
  refine own_st (fun t k => XS.iconst X0.here hx rfl (hb hby d1_1) k) ?_
  show own_Fin p e below _ (s₁.setTop (mkF m 2 #[.val (.int i1), .val (.int i2), .val (.long j3), .second, .unset] [(.int (3 : Int32)), (.int i1)]))
  refine own_st (fun t k => XS.iand X0.here hx rfl (hb hby d1_2) rfl k) ?_
  show own_Fin p e below _ (s₁.setTop (mkF m 3 #[.val (.int i1), .val (.int i2), .val (.long j3), .second, .unset] [(.int (i1 &&& (3 : Int32)))]))
  rw [P0]
  show own_Fin p e below _ (s₁.setTop (mkF m 3 #[.val (.int i1), .val (.int i2), .val (.long j3), .second, .unset] [(.int (1 : Int32))]))
  refine own_st (fun t k => XS.istore X0.here hx rfl (hb hby d1_3) rfl (l' := #[.val (.int i1), .val (.int i2), .val (.long j3), .second, .val (.int (1 : Int32))]) rfl k) ?_
  show own_Fin p e below _ (s₁.setTop (mkF m 5 #[.val (.int i1), .val (.int i2), .val (.long j3), .second, .val (.int (1 : Int32))] []))
  refine own_st (fun t k => XS.iload X0.here hx rfl (hb hby d1_5) rfl k) ?_
  show own_Fin p e below _ (s₁.setTop (mkF m 7 #[.val (.int i1), .val (.int i2), .val (.long j3), .second, .val (.int (1 : Int32))] [(.int (1 : Int32))]))
  refine own_st (fun t k => XS.ifYes X0.here hx rfl (pc0 := 7) (pc' := 16) rfl (hb hby d1_7) rfl (by decide) (by decide) (by decide) k) ?_
  show own_Fin p e below _ (s₁.setTop (mkF m 16 #[.val (.int i1), .val (.int i2), .val (.long j3), .second, .val (.int (1 : Int32))] []))
  refine own_st (fun t k => XS.iload X0.here hx rfl (hb hby d1_16) rfl k) ?_
  show own_Fin p e below _ (s₁.setTop (mkF m 18 #[.val (.int i1), .val (.int i2), .val (.long j3), .second, .val (.int (1 : Int32))] [(.int (1 : Int32))]))
  refine own_st (fun t k => XS.iconst X0.here hx rfl (hb hby d1_18) k) ?_
  show own_Fin p e below _ (s₁.setTop (mkF m 19 #[.val (.int i1), .val (.int i2), .val (.long j3), .second, .val (.int (1 : Int32))] [(.int (1 : Int32)), (.int (1 : Int32))]))
  refine own_st (fun t k => XS.icmpNo X0.here hx rfl (hb hby d1_19) rfl (by decide) k) ?_
  show own_Fin p e below _ (s₁.setTop (mkF m 22 #[.val (.int i1), .val (.int i2), .val (.long j3), .second, .val (.int (1 : Int32))] []))
  refine own_st (fun t k => XS.iloadN X0.here hx rfl (hb hby d1_22) rfl k) ?_
  show own_Fin p e below _ (s₁.setTop (mkF m 23 #[.val (.int i1), .val (.int i2), .val (.long j3), .second, .val (.int (1 : Int32))] [(.int i2)]))
  refine own_st (fun t k => XS.lloadN X0.here hx rfl (hb hby d1_23) rfl k) ?_
  show own_Fin p e below _ (s₁.setTop (mkF m 24 #[.val (.int i1), .val (.int i2), .val (.long j3), .second, .val (.int (1 : Int32))] [(.long j3), (.int i2)]))
  refine own_st (fun t k => XS.iloadN X0.here hx rfl (hb hby d1_24) rfl k) ?_
  show own_Fin p e below _ (s₁.setTop (mkF m 25 #[.val (.int i1), .val (.int i2), .val (.long j3), .second, .val (.int (1 : Int32))] [(.int i1), (.long j3), (.int i2)]))
  refine own_st (fun t k => XS.iconst X0.here hx rfl (hb hby d1_25) k) ?_
  show own_Fin p e below _ (s₁.setTop (mkF m 26 #[.val (.int i1), .val (.int i2), .val (.long j3), .second, .val (.int (1 : Int32))] [(.int (4 : Int32)), (.int i1), (.long j3), (.int i2)]))
  refine own_st (fun t k => XS.iand X0.here hx rfl (hb hby d1_26) rfl k) ?_
  show own_Fin p e below _ (s₁.setTop (mkF m 27 #[.val (.int i1), .val (.int i2), .val (.long j3), .second, .val (.int (1 : Int32))] [(.int (i1 &&& (4 : Int32))), (.long j3), (.int i2)]))
  refine own_st (fun t k => XS.ifYes X0.here hx rfl (pc0 := 27) (pc' := 34) rfl (hb hby d1_27) rfl ((if0 _ _).trans (teq P1).1) (by decide) (by decide) k) ?_
  show own_Fin p e below _ (s₁.setTop (mkF m 34 #[.val (.int i1), .val (.int i2), .val (.long j3), .second, .val (.int (1 : Int32))] [(.long j3), (.int i2)]))
  refine own_st (fun t k => XS.iconst X0.here hx rfl (hb hby d1_34) k) ?_
  show own_Fin p e below _ (s₁.setTop (mkF m 35 #[.val (.int i1), .val (.int i2), .val (.long j3), .second, .val (.int (1 : Int32))] [(.int (0 : Int32)), (.long j3), (.int i2)]))
  obtain ⟨_, _, ⟨T1, L1, k1, n1⟩, -, X1, ⟨Lc1, hQ1, l1, y1, z1⟩, st1⟩ := Jvm.LawKit.callS X0 hx (y := (⟨"com/example/deioces/deioces/Message", "reply", "(IJZ)Lcom/example/deioces/deioces/Message;"⟩ : MethodName)) hown (mvT hZ (hw _ (List.mem_of_getElem? (i := 89) rfl))) (mvT hZ (hw _ (List.mem_of_getElem? (i := 90) rfl))) (mvT hZ (hw _ (List.mem_of_getElem? (i := 7) rfl))) (mvT hZ (hw _ (List.mem_of_getElem? (i := 91) rfl))) (by decide) (backOf (W := 0) (rm15_12 l Z a0 hw [] i2 j3 a4 h0 n0 Z0 P2) hZ (hw _ (List.mem_of_getElem? (i := 91) rfl)) (hw _ (List.mem_of_getElem? (i := 7) rfl)) (by decide) (by decide)) (g := (mkF m 35 #[.val (.int i1), .val (.int i2), .val (.long j3), .second, .val (.int (1 : Int32))] [(.int (0 : Int32)), (.long j3), (.int i2)])) rfl (by rw [hml]; rfl) (argsL := [(.int i2), (.long j3), (.int (0 : Int32))]) (rest := []) (lenOf pd__IJZ_Lcom_example_deioces_deioces_Message_ rfl) rfl (by show 2 * 0 + _ ≤ _; exact Nat.le_of_eq rfl) (hb hby d1_35) (fun _ _ => ⟨rfl, e0, (by decide : 0 + 1 ≤ _), (by decide : 0 + 4 ≤ _)⟩)
  dsimp only [Pt.U, Pt.locs, Pt.cells, Pt.slots] at X1 l1 y1 z1 st1 hQ1
  subst l1 y1 z1
  obtain ⟨b1_0, rfl, N1q, K1q, le_b1_0, G1_0, G1_1, G1_2, G1_3, G1_4⟩ := hQ1
  have sz_b1_0 : h0.size ≤ b1_0 := Nat.le_trans (Keep.refl h0 []).1 le_b1_0
  have g_b1_0 : n0 ≤ b1_0 := Nat.le_trans Z0 sz_b1_0
  have Z2 : n0 ≤ Array.size T1.heap := Nat.le_trans Z0 K1q.1
  have KC2 : Keep h0 T1.heap [] := (Keep.refl h0 []).trans K1q all0
  have N1 := Fr.app N0 N1q
  refine own_st st1 ?_
  show own_Fin p e below _ (T1.setTop (mkF m 38 #[.val (.int i1), .val (.int i2), .val (.long j3), .second, .val (.int (1 : Int32))] [(.ref b1_0)]))
  obtain ⟨fs, hr, hrun, hended, hW, hsame⟩ := X1.leave (v := some (.ref b1_0)) (fun h => by rw [Bd.returns] at h; cases h)
  have hQf : Q1_13 Z i1 i2 j3 a4 h0 n0 _ T1.heap _ := ⟨b1_0, rfl, N1, KC2, sz_b1_0, G1_0, G1_1, G1_2, G1_3, G1_4⟩
  exact ⟨_, _, retOut X1 hx (t := (.object "com/example/deioces/deioces/Message")) Bd.returns rfl (Or.inr (Or.inr (Or.inr (Or.inr ⟨rfl, rfl, rfl⟩)))) (hb hby d1_38) hr, hrun, hended, _, _, rfl, hQf, ⟨_, rfl⟩, hW, hsame.mono (by decide) (by decide)⟩
set_option maxRecDepth 65536 in
set_option maxHeartbeats 40000000 in
theorem rm0_c10 (l : Launch) (Z : State) (a0 : Array Value) (hw : ∀ d ∈ tables_1, d.before a0 Z = true) (ws : List Jvm.Cond) (w_ELECTION : Addr) (w_RELEASE : Addr) (w_HEARTBEAT : Addr) (w_REPLY : Addr) (p0 : Int32) (p1 : Int32) (p2 : Int64) (p3 : Int64) (p4 : Int64) (p5 : Int64) (h0 : Heap) (n0 : Nat) (Z0 : n0 ≤ Array.size h0) (PN : own_Pins Z h0 w_ELECTION w_RELEASE w_HEARTBEAT w_REPLY) (q0 : (p0 &&& (3 : Int32)) = (1 : Int32)) (q1 : (p0 &&& (4 : Int32)) = (0 : Int32)) :
    MetFree l x (head1 (Jvm.Cond.code x code maxLocals ret :: ws) room_1) (fun a U => a = #[(.int p0), (.int p1), (.long p2), (.long p3), (.long p4), (.long p5)] ∧ Z.Warmed39 U.vm ∧ U.heap = h0) (fun _ _ _ _ _ => True) (fun _ U o U' => ∃ v L, o = .returned v ∧ own_Q0 n0 (some (.int (1 : Int32))) v U'.heap L ∧ FrameEnd U o U' L room_1.cells room_1.slots) := by
  refine MetFree.of_bodySF (plainFor_of_name pn_com_example_deioces_deioces_DatagramEchoingPinLaw) hisR ?_
  intro p e s m args below meth c s₁ Bd hml0 hP hK
  obtain ⟨rfl, hZ, hh⟩ := hP
  have hx := Bd.exec
  have hby := Bd.bytes
  have hml : c.maxLocals = 14 := hml0
  have hown : s.vm.findClass "com/example/deioces/deioces/DatagramEchoingPinLaw" = some m.cls := findClass_of_methodNamed Bd.named
  have hnm := (name_of_methodNamed Bd.named Bd.method).1
  have X0 : Stand p l e room_1 s m #[(.int p0), (.int p1), (.long p2), (.long p3), (.long p4), (.long p5)] below meth c s₁ [] 0 0 := Stand.of_body Bd
  have e0 : s₁.heap = h0 := by rw [← hh, Bd.state]; rfl
  have N0 := Fr.nil n0
  obtain ⟨S_ELECTION, E_ELECTION, S_RELEASE, E_RELEASE, S_HEARTBEAT, E_HEARTBEAT, S_REPLY, E_REPLY⟩ := PN
  refine (?_ : own_Fin p e below _ _)
  refine own_st (fun t k => castTop (ef_0_IIJJJJ m p0 p1 p2 p3 p4 p5) k) ?_
  show own_Fin p e below _ (s₁.setTop (mkF m 0 #[.val (.int p0), .val (.int p1), .val (.long p2), .second, .val (.long p3), .second, .val (.long p4), .second, .val (.long p5), .second, .unset, .unset, .unset, .unset] []))
  refine own_st (fun t k => XS.lload X0.here hx rfl (hb hby at_0) rfl k) ?_
  show own_Fin p e below _ (s₁.setTop (mkF m 2 #[.val (.int p0), .val (.int p1), .val (.long p2), .second, .val (.long p3), .second, .val (.long p4), .second, .val (.long p5), .second, .unset, .unset, .unset, .unset] [(.long p5)]))
  refine own_st (fun t k => X0.ldc2J hx hown (mvT hZ (hw _ (List.mem_of_getElem? (i := 0) rfl))) rfl (hb hby at_2) k) ?_
  show own_Fin p e below _ (s₁.setTop (mkF m 5 #[.val (.int p0), .val (.int p1), .val (.long p2), .second, .val (.long p3), .second, .val (.long p4), .second, .val (.long p5), .second, .unset, .unset, .unset, .unset] [(.long (9223372036854775807 : Int64)), (.long p5)]))
  refine own_st (fun t k => XS.land X0.here hx rfl (hb hby at_5) rfl k) ?_
  show own_Fin p e below _ (s₁.setTop (mkF m 6 #[.val (.int p0), .val (.int p1), .val (.long p2), .second, .val (.long p3), .second, .val (.long p4), .second, .val (.long p5), .second, .unset, .unset, .unset, .unset] [(.long (p5 &&& (9223372036854775807 : Int64)))]))
  refine own_st (fun t k => XS.lstore X0.here hx rfl (hb hby at_6) rfl (l' := #[.val (.int p0), .val (.int p1), .val (.long p2), .second, .val (.long p3), .second, .val (.long p4), .second, .val (.long p5), .second, .val (.long (p5 &&& (9223372036854775807 : Int64))), .second, .unset, .unset]) rfl k) ?_
  show own_Fin p e below _ (s₁.setTop (mkF m 8 #[.val (.int p0), .val (.int p1), .val (.long p2), .second, .val (.long p3), .second, .val (.long p4), .second, .val (.long p5), .second, .val (.long (p5 &&& (9223372036854775807 : Int64))), .second, .unset, .unset] []))
  refine own_st (fun t k => XS.iloadN X0.here hx rfl (hb hby at_8) rfl k) ?_
  show own_Fin p e below _ (s₁.setTop (mkF m 9 #[.val (.int p0), .val (.int p1), .val (.long p2), .second, .val (.long p3), .second, .val (.long p4), .second, .val (.long p5), .second, .val (.long (p5 &&& (9223372036854775807 : Int64))), .second, .unset, .unset] [(.int p0)]))
  refine own_st (fun t k => XS.iloadN X0.here hx rfl (hb hby at_9) rfl k) ?_
  show own_Fin p e below _ (s₁.setTop (mkF m 10 #[.val (.int p0), .val (.int p1), .val (.long p2), .second, .val (.long p3), .second, .val (.long p4), .second, .val (.long p5), .second, .val (.long (p5 &&& (9223372036854775807 : Int64))), .second, .unset, .unset] [(.int p1), (.int p0)]))
  refine own_st (fun t k => XS.lloadN X0.here hx rfl (hb hby at_10) rfl k) ?_
  show own_Fin p e below _ (s₁.setTop (mkF m 11 #[.val (.int p0), .val (.int p1), .val (.long p2), .second, .val (.long p3), .second, .val (.long p4), .second, .val (.long p5), .second, .val (.long (p5 &&& (9223372036854775807 : Int64))), .second, .unset, .unset] [(.long p2), (.int p1), (.int p0)]))
  obtain ⟨_, _, ⟨T1, L1, k1, n1⟩, -, X1, ⟨Lc1, hQ1, l1, y1, z1⟩, st1⟩ := Jvm.LawKit.callS X0 hx (y := (⟨"com/example/deioces/deioces/DatagramEchoingPinLaw", "makeMessage", "(IIJ)Lcom/example/deioces/deioces/Message;"⟩ : MethodName)) hown (mvT hZ (hw _ (List.mem_of_getElem? (i := 1) rfl))) (mvT hZ (hw _ (List.mem_of_getElem? (i := 2) rfl))) (mvT hZ (hw _ (List.mem_of_getElem? (i := 3) rfl))) (mvT hZ (hw _ (List.mem_of_getElem? (i := 4) rfl))) (by decide) (backOf (W := 0) (rm1_13 l Z a0 hw [] p0 p1 p2 w_REPLY h0 n0 Z0 q0 q1 S_REPLY) hZ (hw _ (List.mem_of_getElem? (i := 4) rfl)) (hw _ (List.mem_of_getElem? (i := 3) rfl)) (by decide) (by decide)) (g := (mkF m 11 #[.val (.int p0), .val (.int p1), .val (.long p2), .second, .val (.long p3), .second, .val (.long p4), .second, .val (.long p5), .second, .val (.long (p5 &&& (9223372036854775807 : Int64))), .second, .unset, .unset] [(.long p2), (.int p1), (.int p0)])) rfl (by rw [hml]; rfl) (argsL := [(.int p0), (.int p1), (.long p2)]) (rest := []) (lenOf pd__IIJ_Lcom_example_deioces_deioces_Message_ rfl) rfl (by show 2 * 0 + _ ≤ _; exact Nat.le_of_eq rfl) (hb hby at_11) (fun _ _ => ⟨rfl, e0, (by decide : 0 + 1 ≤ _), (by decide : 0 + 4 ≤ _)⟩)
  dsimp only [Pt.U, Pt.locs, Pt.cells, Pt.slots] at X1 l1 y1 z1 st1 hQ1
  subst l1 y1 z1
  obtain ⟨b1_0, rfl, N1q, K1q, le_b1_0, G1_0, G1_1, G1_2, G1_3, G1_4⟩ := hQ1
  have sz_b1_0 : h0.size ≤ b1_0 := Nat.le_trans (Keep.refl h0 []).1 le_b1_0
  have g_b1_0 : n0 ≤ b1_0 := Nat.le_trans Z0 sz_b1_0
  have Z2 : n0 ≤ Array.size T1.heap := Nat.le_trans Z0 K1q.1
  have KC2 : Keep h0 T1.heap [] := (Keep.refl h0 []).trans K1q all0
  have N1 := Fr.app N0 N1q
  refine own_st st1 ?_
  show own_Fin p e below _ (T1.setTop (mkF m 14 #[.val (.int p0), .val (.int p1), .val (.long p2), .second, .val (.long p3), .second, .val (.long p4), .second, .val (.long p5), .second, .val (.long (p5 &&& (9223372036854775807 : Int64))), .second, .unset, .unset] [(.ref b1_0)]))
  refine own_st (fun t k => XS.astore X1.here hx rfl (hb hby at_14) rfl rfl (l' := #[.val (.int p0), .val (.int p1), .val (.long p2), .second, .val (.long p3), .second, .val (.long p4), .second, .val (.long p5), .second, .val (.long (p5 &&& (9223372036854775807 : Int64))), .second, .val (.ref b1_0), .unset]) rfl k) ?_
  show own_Fin p e below _ (T1.setTop (mkF m 16 #[.val (.int p0), .val (.int p1), .val (.long p2), .second, .val (.long p3), .second, .val (.long p4), .second, .val (.long p5), .second, .val (.long (p5 &&& (9223372036854775807 : Int64))), .second, .val (.ref b1_0), .unset] []))
  refine own_st (fun t k => XS.aload X1.here hx rfl (hb hby at_16) rfl rfl k) ?_
  show own_Fin p e below _ (T1.setTop (mkF m 18 #[.val (.int p0), .val (.int p1), .val (.long p2), .second, .val (.long p3), .second, .val (.long p4), .second, .val (.long p5), .second, .val (.long (p5 &&& (9223372036854775807 : Int64))), .second, .val (.ref b1_0), .unset] [(.ref b1_0)]))
  refine own_st (fun t k => XS.lload X1.here hx rfl (hb hby at_18) rfl k) ?_
  show own_Fin p e below _ (T1.setTop (mkF m 20 #[.val (.int p0), .val (.int p1), .val (.long p2), .second, .val (.long p3), .second, .val (.long p4), .second, .val (.long p5), .second, .val (.long (p5 &&& (9223372036854775807 : Int64))), .second, .val (.ref b1_0), .unset] [(.long p3), (.ref b1_0)]))
  refine own_st (fun t k => XS.lload X1.here hx rfl (hb hby at_20) rfl k) ?_
  show own_Fin p e below _ (T1.setTop (mkF m 22 #[.val (.int p0), .val (.int p1), .val (.long p2), .second, .val (.long p3), .second, .val (.long p4), .second, .val (.long p5), .second, .val (.long (p5 &&& (9223372036854775807 : Int64))), .second, .val (.ref b1_0), .unset] [(.long p4), (.long p3), (.ref b1_0)]))
  refine own_st (fun t k => XS.lload X1.here hx rfl (hb hby at_22) rfl k) ?_
  show own_Fin p e below _ (T1.setTop (mkF m 24 #[.val (.int p0), .val (.int p1), .val (.long p2), .second, .val (.long p3), .second, .val (.long p4), .second, .val (.long p5), .second, .val (.long (p5 &&& (9223372036854775807 : Int64))), .second, .val (.ref b1_0), .unset] [(.long (p5 &&& (9223372036854775807 : Int64))), (.long p4), (.long p3), (.ref b1_0)]))
  obtain ⟨_, _, ⟨T3, L3, k3, n3⟩, -, X3, ⟨Lc3, hQ3, l3, y3, z3⟩, st3⟩ := Jvm.LawKit.callS X1 hx (y := (⟨"com/example/deioces/deioces/Datagram", "echoing", "(Lcom/example/deioces/deioces/Message;JJJ)Lcom/example/deioces/deioces/Datagram;"⟩ : MethodName)) hown (mvT hZ (hw _ (List.mem_of_getElem? (i := 28) rfl))) (mvT hZ (hw _ (List.mem_of_getElem? (i := 29) rfl))) (mvT hZ (hw _ (List.mem_of_getElem? (i := 30) rfl))) (mvT hZ (hw _ (List.mem_of_getElem? (i := 31) rfl))) (by decide) (backOf (W := 0) (rm5_5 l Z a0 hw [] b1_0 p3 p4 (p5 &&& (9223372036854775807 : Int64)) T1.heap n0 Z2) hZ (hw _ (List.mem_of_getElem? (i := 31) rfl)) (hw _ (List.mem_of_getElem? (i := 30) rfl)) (by decide) (by decide)) (g := (mkF m 24 #[.val (.int p0), .val (.int p1), .val (.long p2), .second, .val (.long p3), .second, .val (.long p4), .second, .val (.long p5), .second, .val (.long (p5 &&& (9223372036854775807 : Int64))), .second, .val (.ref b1_0), .unset] [(.long (p5 &&& (9223372036854775807 : Int64))), (.long p4), (.long p3), (.ref b1_0)])) rfl (by rw [hml]; rfl) (argsL := [(.ref b1_0), (.long p3), (.long p4), (.long (p5 &&& (9223372036854775807 : Int64)))]) (rest := []) (lenOf pd__Lcom_example_deioces_deioces_Message_JJJ_Lcom_example_deioces_deioces_Datagram_ rfl) rfl (by show 2 * 0 + _ ≤ _; exact Nat.le_of_eq rfl) (hb hby at_24) (fun _ _ => ⟨rfl, rfl, (by decide : 1 + 1 ≤ _), (by decide : 4 + 5 ≤ _)⟩)
  dsimp only [Pt.U, Pt.locs, Pt.cells, Pt.slots] at X3 l3 y3 z3 st3 hQ3
  subst l3 y3 z3
  obtain ⟨b3_0, rfl, N3q, K3q, le_b3_0, G3_0, G3_1, G3_2, G3_3, G3_4, G3_5⟩ := hQ3
  have sz_b3_0 : h0.size ≤ b3_0 := Nat.le_trans KC2.1 le_b3_0
  have g_b3_0 : n0 ≤ b3_0 := Nat.le_trans Z0 sz_b3_0
  have Z4 : n0 ≤ Array.size T3.heap := Nat.le_trans Z2 K3q.1
  have KC4 : Keep h0 T3.heap [] := KC2.trans K3q all0
  have N3 := Fr.app N1 N3q
  refine own_st st3 ?_
  show own_Fin p e below _ (T3.setTop (mkF m 27 #[.val (.int p0), .val (.int p1), .val (.long p2), .second, .val (.long p3), .second, .val (.long p4), .second, .val (.long p5), .second, .val (.long (p5 &&& (9223372036854775807 : Int64))), .second, .val (.ref b1_0), .unset] [(.ref b3_0)]))
  refine own_st (fun t k => XS.astore X3.here hx rfl (hb hby at_27) rfl rfl (l' := #[.val (.int p0), .val (.int p1), .val (.long p2), .second, .val (.long p3), .second, .val (.long p4), .second, .val (.long p5), .second, .val (.long (p5 &&& (9223372036854775807 : Int64))), .second, .val (.ref b1_0), .val (.ref b3_0)]) rfl k) ?_
  show own_Fin p e below _ (T3.setTop (mkF m 29 #[.val (.int p0), .val (.int p1), .val (.long p2), .second, .val (.long p3), .second, .val (.long p4), .second, .val (.long p5), .second, .val (.long (p5 &&& (9223372036854775807 : Int64))), .second, .val (.ref b1_0), .val (.ref b3_0)] []))
  refine own_st (fun t k => XS.aload X3.here hx rfl (hb hby at_29) rfl rfl k) ?_
  show own_Fin p e below _ (T3.setTop (mkF m 31 #[.val (.int p0), .val (.int p1), .val (.long p2), .second, .val (.long p3), .second, .val (.long p4), .second, .val (.long p5), .second, .val (.long (p5 &&& (9223372036854775807 : Int64))), .second, .val (.ref b1_0), .val (.ref b3_0)] [(.ref b3_0)]))
  obtain ⟨cq5, kq5, q5a, q5b, q5c⟩ := isOf hZ rfl G3_0
  obtain ⟨_, _, ⟨T5, L5, k5, n5⟩, -, X5, ⟨Lc5, hQ5, l5, y5, z5⟩, st5⟩ := X3.virtualBack hx (y := (⟨"com/example/deioces/deioces/Datagram", "message", "()Lcom/example/deioces/deioces/Message;"⟩ : MethodName)) (z := (⟨"com/example/deioces/deioces/Datagram", "message", "()Lcom/example/deioces/deioces/Message;"⟩ : MethodName)) hown (mvT hZ (hw _ (List.mem_of_getElem? (i := 48) rfl))) (mvT hZ (hw _ (List.mem_of_getElem? (i := 49) rfl))) (notFace_of_selects (args := #[]) (mvT hZ (hw _ (List.mem_of_getElem? (i := 51) rfl)))) (mvT hZ (hw _ (List.mem_of_getElem? (i := 51) rfl))) (mvT hZ (hw _ (List.mem_of_getElem? (i := 50) rfl))) (by decide) (backOf (W := 0) (rm7_6 l Z a0 hw [] b3_0 b1_0 T3.heap n0 Z4 G3_1) hZ (hw _ (List.mem_of_getElem? (i := 52) rfl)) (hw _ (List.mem_of_getElem? (i := 30) rfl)) (by decide) (by decide)) q5a q5c (g := (mkF m 31 #[.val (.int p0), .val (.int p1), .val (.long p2), .second, .val (.long p3), .second, .val (.long p4), .second, .val (.long p5), .second, .val (.long (p5 &&& (9223372036854775807 : Int64))), .second, .val (.ref b1_0), .val (.ref b3_0)] [(.ref b3_0)])) rfl (by rw [hml]; rfl) (Steps.refl _) (argsL := []) (rest := []) (lenOf pd___Lcom_example_deioces_deioces_Message_ rfl) rfl (by show 2 * 0 + _ ≤ _; exact Nat.le_of_eq rfl) (hb hby at_31) (fun _ _ => ⟨rfl, rfl, (by decide : 2 + 0 ≤ _), (by decide : 9 + 0 ≤ _)⟩)
  dsimp only [Pt.U, Pt.locs, Pt.cells, Pt.slots] at X5 l5 y5 z5 st5 hQ5
  subst l5 y5 z5
  obtain ⟨rfl, N5q, e5⟩ := hQ5
  have N5 := Fr.app N3 N5q
  refine own_tr st5 ?_
  show own_Fin p e below _ (T5.setTop (mkF m 34 #[.val (.int p0), .val (.int p1), .val (.long p2), .second, .val (.long p3), .second, .val (.long p4), .second, .val (.long p5), .second, .val (.long (p5 &&& (9223372036854775807 : Int64))), .second, .val (.ref b1_0), .val (.ref b3_0)] [(.ref b1_0)]))
  refine own_st (fun t k => XS.aload X5.here hx rfl (hb hby at_34) rfl rfl k) ?_
  show own_Fin p e below _ (T5.setTop (mkF m 36 #[.val (.int p0), .val (.int p1), .val (.long p2), .second, .val (.long p3), .second, .val (.long p4), .second, .val (.long p5), .second, .val (.long (p5 &&& (9223372036854775807 : Int64))), .second, .val (.ref b1_0), .val (.ref b3_0)] [(.ref b1_0), (.ref b1_0)]))
  have F7 : Exa Z T3.heap b1_0 "com/example/deioces/deioces/Message" := (G1_0.keep K3q)
  have F8 : Fld Z T3.heap b1_0 "com/example/deioces/deioces/Message" "kind" "Lcom/example/deioces/deioces/Message$Kind;" (.ref w_REPLY) := (G1_1.keep K3q nin0)
  have F9 : Fld Z T3.heap b1_0 "com/example/deioces/deioces/Message" "sender" "I" (.int p1) := (G1_2.keep K3q nin0)
  have F10 : Fld Z T3.heap b1_0 "com/example/deioces/deioces/Message" "stamp" "J" (.long p2) := (G1_3.keep K3q nin0)
  have F11 : Fld Z T3.heap b1_0 "com/example/deioces/deioces/Message" "supportive" "Z" (.int (0 : Int32)) := (G1_4.keep K3q nin0)
  obtain ⟨cq6, kq6, q6a, q6b, q6c⟩ := isOf hZ e5 F7
  obtain ⟨_, _, ⟨T6, L6, k6, n6⟩, -, X6, ⟨Lc6, hQ6, l6, y6, z6⟩, st6⟩ := X5.virtualBack hx (y := (⟨"com/example/deioces/deioces/Message", "equals", "(Ljava/lang/Object;)Z"⟩ : MethodName)) (z := (⟨"com/example/deioces/deioces/Message", "equals", "(Ljava/lang/Object;)Z"⟩ : MethodName)) hown (mvT hZ (hw _ (List.mem_of_getElem? (i := 53) rfl))) (mvT hZ (hw _ (List.mem_of_getElem? (i := 54) rfl))) (notFace_of_selects (args := #[]) (mvT hZ (hw _ (List.mem_of_getElem? (i := 56) rfl)))) (mvT hZ (hw _ (List.mem_of_getElem? (i := 56) rfl))) (mvT hZ (hw _ (List.mem_of_getElem? (i := 55) rfl))) (by decide) (backOf (W := 0) (rm8_7 l Z a0 hw [] b1_0 w_REPLY p1 p2 T3.heap n0 Z4 F7 F8 F9 F10 F11) hZ (hw _ (List.mem_of_getElem? (i := 57) rfl)) (hw _ (List.mem_of_getElem? (i := 7) rfl)) (by decide) (by decide)) q6a q6c (g := (mkF m 36 #[.val (.int p0), .val (.int p1), .val (.long p2), .second, .val (.long p3), .second, .val (.long p4), .second, .val (.long p5), .second, .val (.long (p5 &&& (9223372036854775807 : Int64))), .second, .val (.ref b1_0), .val (.ref b3_0)] [(.ref b1_0), (.ref b1_0)])) rfl (by rw [hml]; rfl) (Steps.refl _) (argsL := [(.ref b1_0)]) (rest := []) (lenOf pd__Ljava_lang_Object__Z rfl) rfl (by show 2 * 0 + _ ≤ _; exact Nat.le_of_eq rfl) (hb hby at_36) (fun _ _ => ⟨rfl, e5, (by decide : 2 + 0 ≤ _), (by decide : 9 + 0 ≤ _)⟩)
  dsimp only [Pt.U, Pt.locs, Pt.cells, Pt.slots] at X6 l6 y6 z6 st6 hQ6
  subst l6 y6 z6
  obtain ⟨rfl, N6q, e6⟩ := hQ6
  have N6 := Fr.app N5 N6q
  refine own_tr st6 ?_
  show own_Fin p e below _ (T6.setTop (mkF m 39 #[.val (.int p0), .val (.int p1), .val (.long p2), .second, .val (.long p3), .second, .val (.long p4), .second, .val (.long p5), .second, .val (.long (p5 &&& (9223372036854775807 : Int64))), .second, .val (.ref b1_0), .val (.ref b3_0)] [(.int (1 : Int32))]))
  refine own_st (fun t k => XS.ifNo X6.here hx rfl (hb hby at_39) rfl (by decide) k) ?_
  show own_Fin p e below _ (T6.setTop (mkF m 42 #[.val (.int p0), .val (.int p1), .val (.long p2), .second, .val (.long p3), .second, .val (.long p4), .second, .val (.long p5), .second, .val (.long (p5 &&& (9223372036854775807 : Int64))), .second, .val (.ref b1_0), .val (.ref b3_0)] []))
  refine own_st (fun t k => XS.aload X6.here hx rfl (hb hby at_42) rfl rfl k) ?_
  show own_Fin p e below _ (T6.setTop (mkF m 44 #[.val (.int p0), .val (.int p1), .val (.long p2), .second, .val (.long p3), .second, .val (.long p4), .second, .val (.long p5), .second, .val (.long (p5 &&& (9223372036854775807 : Int64))), .second, .val (.ref b1_0), .val (.ref b3_0)] [(.ref b3_0)]))
  obtain ⟨cq12, kq12, q12a, q12b, q12c⟩ := isOf hZ e6 G3_0
  obtain ⟨_, _, ⟨T12, L12, k12, n12⟩, -, X12, ⟨Lc12, hQ12, l12, y12, z12⟩, st12⟩ := X6.virtualBack hx (y := (⟨"com/example/deioces/deioces/Datagram", "sent", "()J"⟩ : MethodName)) (z := (⟨"com/example/deioces/deioces/Datagram", "sent", "()J"⟩ : MethodName)) hown (mvT hZ (hw _ (List.mem_of_getElem? (i := 59) rfl))) (mvT hZ (hw _ (List.mem_of_getElem? (i := 60) rfl))) (notFace_of_selects (args := #[]) (mvT hZ (hw _ (List.mem_of_getElem? (i := 62) rfl)))) (mvT hZ (hw _ (List.mem_of_getElem? (i := 62) rfl))) (mvT hZ (hw _ (List.mem_of_getElem? (i := 61) rfl))) (by decide) (backOf (W := 0) (rm9_8 l Z a0 hw [] b3_0 p3 T3.heap n0 Z4 G3_2) hZ (hw _ (List.mem_of_getElem? (i := 63) rfl)) (hw _ (List.mem_of_getElem? (i := 30) rfl)) (by decide) (by decide)) q12a q12c (g := (mkF m 44 #[.val (.int p0), .val (.int p1), .val (.long p2), .second, .val (.long p3), .second, .val (.long p4), .second, .val (.long p5), .second, .val (.long (p5 &&& (9223372036854775807 : Int64))), .second, .val (.ref b1_0), .val (.ref b3_0)] [(.ref b3_0)])) rfl (by rw [hml]; rfl) (Steps.refl _) (argsL := []) (rest := []) (lenOf pd___J rfl) rfl (by show 2 * 0 + _ ≤ _; exact Nat.le_of_eq rfl) (hb hby at_44) (fun _ _ => ⟨rfl, e6, (by decide : 2 + 0 ≤ _), (by decide : 9 + 0 ≤ _)⟩)
  dsimp only [Pt.U, Pt.locs, Pt.cells, Pt.slots] at X12 l12 y12 z12 st12 hQ12
  subst l12 y12 z12
  obtain ⟨rfl, N12q, e12⟩ := hQ12
  have N12 := Fr.app N6 N12q
  refine own_tr st12 ?_
  show own_Fin p e below _ (T12.setTop (mkF m 47 #[.val (.int p0), .val (.int p1), .val (.long p2), .second, .val (.long p3), .second, .val (.long p4), .second, .val (.long p5), .second, .val (.long (p5 &&& (9223372036854775807 : Int64))), .second, .val (.ref b1_0), .val (.ref b3_0)] [(.long p3)]))
  refine own_st (fun t k => XS.lload X12.here hx rfl (hb hby at_47) rfl k) ?_
  show own_Fin p e below _ (T12.setTop (mkF m 49 #[.val (.int p0), .val (.int p1), .val (.long p2), .second, .val (.long p3), .second, .val (.long p4), .second, .val (.long p5), .second, .val (.long (p5 &&& (9223372036854775807 : Int64))), .second, .val (.ref b1_0), .val (.ref b3_0)] [(.long p3), (.long p3)]))
  refine own_st (fun t k => XS.lcmp X12.here hx rfl (hb hby at_49) rfl k) ?_
  show own_Fin p e below _ (T12.setTop (mkF m 50 #[.val (.int p0), .val (.int p1), .val (.long p2), .second, .val (.long p3), .second, .val (.long p4), .second, .val (.long p5), .second, .val (.long (p5 &&& (9223372036854775807 : Int64))), .second, .val (.ref b1_0), .val (.ref b3_0)] [(.int (lcmpW p3 p3))]))
  refine own_st (fun t k => XS.ifNo X12.here hx rfl (hb hby at_50) rfl ((if0 _ _).trans (teq ((lw_eq p3 p3).2 rfl)).2) k) ?_
  show own_Fin p e below _ (T12.setTop (mkF m 53 #[.val (.int p0), .val (.int p1), .val (.long p2), .second, .val (.long p3), .second, .val (.long p4), .second, .val (.long p5), .second, .val (.long (p5 &&& (9223372036854775807 : Int64))), .second, .val (.ref b1_0), .val (.ref b3_0)] []))
  refine own_st (fun t k => XS.aload X12.here hx rfl (hb hby at_53) rfl rfl k) ?_
  show own_Fin p e below _ (T12.setTop (mkF m 55 #[.val (.int p0), .val (.int p1), .val (.long p2), .second, .val (.long p3), .second, .val (.long p4), .second, .val (.long p5), .second, .val (.long (p5 &&& (9223372036854775807 : Int64))), .second, .val (.ref b1_0), .val (.ref b3_0)] [(.ref b3_0)]))
  obtain ⟨cq13, kq13, q13a, q13b, q13c⟩ := isOf hZ e12 G3_0
  obtain ⟨_, _, ⟨T13, L13, k13, n13⟩, -, X13, ⟨Lc13, hQ13, l13, y13, z13⟩, st13⟩ := X12.virtualBack hx (y := (⟨"com/example/deioces/deioces/Datagram", "echoes", "()Z"⟩ : MethodName)) (z := (⟨"com/example/deioces/deioces/Datagram", "echoes", "()Z"⟩ : MethodName)) hown (mvT hZ (hw _ (List.mem_of_getElem? (i := 64) rfl))) (mvT hZ (hw _ (List.mem_of_getElem? (i := 65) rfl))) (notFace_of_selects (args := #[]) (mvT hZ (hw _ (List.mem_of_getElem? (i := 67) rfl)))) (mvT hZ (hw _ (List.mem_of_getElem? (i := 67) rfl))) (mvT hZ (hw _ (List.mem_of_getElem? (i := 66) rfl))) (by decide) (backOf (W := 0) (rm10_9 l Z a0 hw [] b3_0 T3.heap n0 Z4 G3_3) hZ (hw _ (List.mem_of_getElem? (i := 68) rfl)) (hw _ (List.mem_of_getElem? (i := 30) rfl)) (by decide) (by decide)) q13a q13c (g := (mkF m 55 #[.val (.int p0), .val (.int p1), .val (.long p2), .second, .val (.long p3), .second, .val (.long p4), .second, .val (.long p5), .second, .val (.long (p5 &&& (9223372036854775807 : Int64))), .second, .val (.ref b1_0), .val (.ref b3_0)] [(.ref b3_0)])) rfl (by rw [hml]; rfl) (Steps.refl _) (argsL := []) (rest := []) (lenOf pd___Z rfl) rfl (by show 2 * 0 + _ ≤ _; exact Nat.le_of_eq rfl) (hb hby at_55) (fun _ _ => ⟨rfl, e12, (by decide : 2 + 0 ≤ _), (by decide : 9 + 0 ≤ _)⟩)
  dsimp only [Pt.U, Pt.locs, Pt.cells, Pt.slots] at X13 l13 y13 z13 st13 hQ13
  subst l13 y13 z13
  obtain ⟨rfl, N13q, e13⟩ := hQ13
  have N13 := Fr.app N12 N13q
  refine own_tr st13 ?_
  show own_Fin p e below _ (T13.setTop (mkF m 58 #[.val (.int p0), .val (.int p1), .val (.long p2), .second, .val (.long p3), .second, .val (.long p4), .second, .val (.long p5), .second, .val (.long (p5 &&& (9223372036854775807 : Int64))), .second, .val (.ref b1_0), .val (.ref b3_0)] [(.int (1 : Int32))]))
  refine own_st (fun t k => XS.ifNo X13.here hx rfl (hb hby at_58) rfl (by decide) k) ?_
  show own_Fin p e below _ (T13.setTop (mkF m 61 #[.val (.int p0), .val (.int p1), .val (.long p2), .second, .val (.long p3), .second, .val (.long p4), .second, .val (.long p5), .second, .val (.long (p5 &&& (9223372036854775807 : Int64))), .second, .val (.ref b1_0), .val (.ref b3_0)] []))
  refine own_st (fun t k => XS.aload X13.here hx rfl (hb hby at_61) rfl rfl k) ?_
  show own_Fin p e below _ (T13.setTop (mkF m 63 #[.val (.int p0), .val (.int p1), .val (.long p2), .second, .val (.long p3), .second, .val (.long p4), .second, .val (.long p5), .second, .val (.long (p5 &&& (9223372036854775807 : Int64))), .second, .val (.ref b1_0), .val (.ref b3_0)] [(.ref b3_0)]))
  obtain ⟨cq14, kq14, q14a, q14b, q14c⟩ := isOf hZ e13 G3_0
  obtain ⟨_, _, ⟨T14, L14, k14, n14⟩, -, X14, ⟨Lc14, hQ14, l14, y14, z14⟩, st14⟩ := X13.virtualBack hx (y := (⟨"com/example/deioces/deioces/Datagram", "echoed", "()J"⟩ : MethodName)) (z := (⟨"com/example/deioces/deioces/Datagram", "echoed", "()J"⟩ : MethodName)) hown (mvT hZ (hw _ (List.mem_of_getElem? (i := 69) rfl))) (mvT hZ (hw _ (List.mem_of_getElem? (i := 70) rfl))) (notFace_of_selects (args := #[]) (mvT hZ (hw _ (List.mem_of_getElem? (i := 72) rfl)))) (mvT hZ (hw _ (List.mem_of_getElem? (i := 72) rfl))) (mvT hZ (hw _ (List.mem_of_getElem? (i := 71) rfl))) (by decide) (backOf (W := 0) (rm11_10 l Z a0 hw [] b3_0 p4 T3.heap n0 Z4 G3_4) hZ (hw _ (List.mem_of_getElem? (i := 73) rfl)) (hw _ (List.mem_of_getElem? (i := 30) rfl)) (by decide) (by decide)) q14a q14c (g := (mkF m 63 #[.val (.int p0), .val (.int p1), .val (.long p2), .second, .val (.long p3), .second, .val (.long p4), .second, .val (.long p5), .second, .val (.long (p5 &&& (9223372036854775807 : Int64))), .second, .val (.ref b1_0), .val (.ref b3_0)] [(.ref b3_0)])) rfl (by rw [hml]; rfl) (Steps.refl _) (argsL := []) (rest := []) (lenOf pd___J rfl) rfl (by show 2 * 0 + _ ≤ _; exact Nat.le_of_eq rfl) (hb hby at_63) (fun _ _ => ⟨rfl, e13, (by decide : 2 + 0 ≤ _), (by decide : 9 + 0 ≤ _)⟩)
  dsimp only [Pt.U, Pt.locs, Pt.cells, Pt.slots] at X14 l14 y14 z14 st14 hQ14
  subst l14 y14 z14
  obtain ⟨rfl, N14q, e14⟩ := hQ14
  have N14 := Fr.app N13 N14q
  refine own_tr st14 ?_
  show own_Fin p e below _ (T14.setTop (mkF m 66 #[.val (.int p0), .val (.int p1), .val (.long p2), .second, .val (.long p3), .second, .val (.long p4), .second, .val (.long p5), .second, .val (.long (p5 &&& (9223372036854775807 : Int64))), .second, .val (.ref b1_0), .val (.ref b3_0)] [(.long p4)]))
  refine own_st (fun t k => XS.lload X14.here hx rfl (hb hby at_66) rfl k) ?_
  show own_Fin p e below _ (T14.setTop (mkF m 68 #[.val (.int p0), .val (.int p1), .val (.long p2), .second, .val (.long p3), .second, .val (.long p4), .second, .val (.long p5), .second, .val (.long (p5 &&& (9223372036854775807 : Int64))), .second, .val (.ref b1_0), .val (.ref b3_0)] [(.long p4), (.long p4)]))
  refine own_st (fun t k => XS.lcmp X14.here hx rfl (hb hby at_68) rfl k) ?_
  show own_Fin p e below _ (T14.setTop (mkF m 69 #[.val (.int p0), .val (.int p1), .val (.long p2), .second, .val (.long p3), .second, .val (.long p4), .second, .val (.long p5), .second, .val (.long (p5 &&& (9223372036854775807 : Int64))), .second, .val (.ref b1_0), .val (.ref b3_0)] [(.int (lcmpW p4 p4))]))
  refine own_st (fun t k => XS.ifNo X14.here hx rfl (hb hby at_69) rfl ((if0 _ _).trans (teq ((lw_eq p4 p4).2 rfl)).2) k) ?_
  show own_Fin p e below _ (T14.setTop (mkF m 72 #[.val (.int p0), .val (.int p1), .val (.long p2), .second, .val (.long p3), .second, .val (.long p4), .second, .val (.long p5), .second, .val (.long (p5 &&& (9223372036854775807 : Int64))), .second, .val (.ref b1_0), .val (.ref b3_0)] []))
  refine own_st (fun t k => XS.aload X14.here hx rfl (hb hby at_72) rfl rfl k) ?_
  show own_Fin p e below _ (T14.setTop (mkF m 74 #[.val (.int p0), .val (.int p1), .val (.long p2), .second, .val (.long p3), .second, .val (.long p4), .second, .val (.long p5), .second, .val (.long (p5 &&& (9223372036854775807 : Int64))), .second, .val (.ref b1_0), .val (.ref b3_0)] [(.ref b3_0)]))
  obtain ⟨cq15, kq15, q15a, q15b, q15c⟩ := isOf hZ e14 G3_0
  obtain ⟨_, _, ⟨T15, L15, k15, n15⟩, -, X15, ⟨Lc15, hQ15, l15, y15, z15⟩, st15⟩ := X14.virtualBack hx (y := (⟨"com/example/deioces/deioces/Datagram", "held", "()J"⟩ : MethodName)) (z := (⟨"com/example/deioces/deioces/Datagram", "held", "()J"⟩ : MethodName)) hown (mvT hZ (hw _ (List.mem_of_getElem? (i := 74) rfl))) (mvT hZ (hw _ (List.mem_of_getElem? (i := 75) rfl))) (notFace_of_selects (args := #[]) (mvT hZ (hw _ (List.mem_of_getElem? (i := 77) rfl)))) (mvT hZ (hw _ (List.mem_of_getElem? (i := 77) rfl))) (mvT hZ (hw _ (List.mem_of_getElem? (i := 76) rfl))) (by decide) (backOf (W := 0) (rm12_11 l Z a0 hw [] b3_0 (p5 &&& (9223372036854775807 : Int64)) T3.heap n0 Z4 G3_5) hZ (hw _ (List.mem_of_getElem? (i := 78) rfl)) (hw _ (List.mem_of_getElem? (i := 30) rfl)) (by decide) (by decide)) q15a q15c (g := (mkF m 74 #[.val (.int p0), .val (.int p1), .val (.long p2), .second, .val (.long p3), .second, .val (.long p4), .second, .val (.long p5), .second, .val (.long (p5 &&& (9223372036854775807 : Int64))), .second, .val (.ref b1_0), .val (.ref b3_0)] [(.ref b3_0)])) rfl (by rw [hml]; rfl) (Steps.refl _) (argsL := []) (rest := []) (lenOf pd___J rfl) rfl (by show 2 * 0 + _ ≤ _; exact Nat.le_of_eq rfl) (hb hby at_74) (fun _ _ => ⟨rfl, e14, (by decide : 2 + 0 ≤ _), (by decide : 9 + 0 ≤ _)⟩)
  dsimp only [Pt.U, Pt.locs, Pt.cells, Pt.slots] at X15 l15 y15 z15 st15 hQ15
  subst l15 y15 z15
  obtain ⟨rfl, N15q, e15⟩ := hQ15
  have N15 := Fr.app N14 N15q
  refine own_tr st15 ?_
  show own_Fin p e below _ (T15.setTop (mkF m 77 #[.val (.int p0), .val (.int p1), .val (.long p2), .second, .val (.long p3), .second, .val (.long p4), .second, .val (.long p5), .second, .val (.long (p5 &&& (9223372036854775807 : Int64))), .second, .val (.ref b1_0), .val (.ref b3_0)] [(.long (p5 &&& (9223372036854775807 : Int64)))]))
  refine own_st (fun t k => XS.lload X15.here hx rfl (hb hby at_77) rfl k) ?_
  show own_Fin p e below _ (T15.setTop (mkF m 79 #[.val (.int p0), .val (.int p1), .val (.long p2), .second, .val (.long p3), .second, .val (.long p4), .second, .val (.long p5), .second, .val (.long (p5 &&& (9223372036854775807 : Int64))), .second, .val (.ref b1_0), .val (.ref b3_0)] [(.long (p5 &&& (9223372036854775807 : Int64))), (.long (p5 &&& (9223372036854775807 : Int64)))]))
  refine own_st (fun t k => XS.lcmp X15.here hx rfl (hb hby at_79) rfl k) ?_
  show own_Fin p e below _ (T15.setTop (mkF m 80 #[.val (.int p0), .val (.int p1), .val (.long p2), .second, .val (.long p3), .second, .val (.long p4), .second, .val (.long p5), .second, .val (.long (p5 &&& (9223372036854775807 : Int64))), .second, .val (.ref b1_0), .val (.ref b3_0)] [(.int (lcmpW (p5 &&& (9223372036854775807 : Int64)) (p5 &&& (9223372036854775807 : Int64))))]))
  refine own_st (fun t k => XS.ifNo X15.here hx rfl (hb hby at_80) rfl ((if0 _ _).trans (teq ((lw_eq (p5 &&& (9223372036854775807 : Int64)) (p5 &&& (9223372036854775807 : Int64))).2 rfl)).2) k) ?_
  show own_Fin p e below _ (T15.setTop (mkF m 83 #[.val (.int p0), .val (.int p1), .val (.long p2), .second, .val (.long p3), .second, .val (.long p4), .second, .val (.long p5), .second, .val (.long (p5 &&& (9223372036854775807 : Int64))), .second, .val (.ref b1_0), .val (.ref b3_0)] []))
  refine own_st (fun t k => XS.iconst X15.here hx rfl (hb hby at_83) k) ?_
  show own_Fin p e below _ (T15.setTop (mkF m 84 #[.val (.int p0), .val (.int p1), .val (.long p2), .second, .val (.long p3), .second, .val (.long p4), .second, .val (.long p5), .second, .val (.long (p5 &&& (9223372036854775807 : Int64))), .second, .val (.ref b1_0), .val (.ref b3_0)] [(.int (1 : Int32))]))
  refine own_st (fun t k => XS.goto X15.here hx rfl (pc0 := 84) (pc' := 88) rfl (hb hby at_84) (by decide) (by decide) k) ?_
  show own_Fin p e below _ (T15.setTop (mkF m 88 #[.val (.int p0), .val (.int p1), .val (.long p2), .second, .val (.long p3), .second, .val (.long p4), .second, .val (.long p5), .second, .val (.long (p5 &&& (9223372036854775807 : Int64))), .second, .val (.ref b1_0), .val (.ref b3_0)] [(.int (1 : Int32))]))
  obtain ⟨fs, hr, hrun, hended, hW, hsame⟩ := X15.leave (v := some (.int (1 : Int32))) (fun h => by rw [Bd.returns] at h; cases h)
  exact ⟨_, _, retN X15 hx (t := .boolean) Bd.returns (by simp) (hb hby at_88) hr, hrun, hended, _, _, rfl, ⟨rfl, N15⟩, ⟨_, rfl⟩, hW, hsame.mono (by decide) (by decide)⟩
theorem d1_30 : decode method_2_code 30 = .ok (.iconst 1, 1) := by decide +kernel
theorem d1_31 : decode method_2_code 31 = .ok (.goto 4, 3) := by decide +kernel
def Q3_14 (Z : State) (a1 : Addr) (a2 : Addr) (i3 : Int32) (j4 : Int64) (h0 : Heap) (n0 : Nat) (v : Option Value) (h : Heap) (L : List Loc) : Prop := v = none ∧ Fr n0 L ∧ Keep h0 h [a1] ∧ Fld Z h a1 "com/example/deioces/deioces/Message" "kind" "Lcom/example/deioces/deioces/Message$Kind;" (.ref a2) ∧ Fld Z h a1 "com/example/deioces/deioces/Message" "sender" "I" (.int i3) ∧ Fld Z h a1 "com/example/deioces/deioces/Message" "stamp" "J" (.long j4) ∧ Fld Z h a1 "com/example/deioces/deioces/Message" "supportive" "Z" (.int (1 : Int32))
set_option maxRecDepth 65536 in
set_option maxHeartbeats 40000000 in
theorem rm3_14 (l : Launch) (Z : State) (a0 : Array Value) (hw : ∀ d ∈ tables_1, d.before a0 Z = true) (ws : List Jvm.Cond) (a1 : Addr) (a2 : Addr) (i3 : Int32) (j4 : Int64) (h0 : Heap) (n0 : Nat) (Z0 : n0 ≤ Array.size h0) (P0 : Fld Z h0 a1 "com/example/deioces/deioces/Message" "kind" "Lcom/example/deioces/deioces/Message$Kind;" .null) (P1 : Exa Z h0 a1 "com/example/deioces/deioces/Message") (P2 : n0 ≤ a1) (P3 : Fld Z h0 a1 "com/example/deioces/deioces/Message" "sender" "I" (.int (0 : Int32))) (P4 : Fld Z h0 a1 "com/example/deioces/deioces/Message" "stamp" "J" (.long (0 : Int64))) (P5 : Fld Z h0 a1 "com/example/deioces/deioces/Message" "supportive" "Z" (.int (0 : Int32))) :
    MetFree l (⟨"com/example/deioces/deioces/Message", "<init>", "(Lcom/example/deioces/deioces/Message$Kind;IJZ)V"⟩ : MethodName) (head1 (Jvm.Cond.code (⟨"com/example/deioces/deioces/Message", "<init>", "(Lcom/example/deioces/deioces/Message$Kind;IJZ)V"⟩ : MethodName) prog_31_method_1_code 6 none :: ws) ({ frames := 1, cells := 0, slots := 0, locals := 12 } : Room)) (fun a U => a = #[(.ref a1), (.ref a2), (.int i3), (.long j4), (.int (1 : Int32))] ∧ Z.Warmed39 U.vm ∧ U.heap = h0) (fun _ _ _ _ _ => True) (fun _ U o U' => ∃ v L, o = .returned v ∧ Q3_14 Z a1 a2 i3 j4 h0 n0 v U'.heap L ∧ FrameEnd U o U' L ({ frames := 1, cells := 0, slots := 0, locals := 12 } : Room).cells ({ frames := 1, cells := 0, slots := 0, locals := 12 } : Room).slots) := by
  refine MetFree.of_bodySF (plainFor_of_name pn_com_example_deioces_deioces_Message) hisR ?_
  intro p e s m args below meth c s₁ Bd hml0 hP hK
  obtain ⟨rfl, hZ, hh⟩ := hP
  have hx := Bd.exec
  have hby := Bd.bytes
  have hml : c.maxLocals = 6 := hml0
  have hown : s.vm.findClass "com/example/deioces/deioces/Message" = some m.cls := findClass_of_methodNamed Bd.named
  have hnm := (name_of_methodNamed Bd.named Bd.method).1
  have X0 : Stand p l e ({ frames := 1, cells := 0, slots := 0, locals := 12 } : Room) s m #[(.ref a1), (.ref a2), (.int i3), (.long j4), (.int (1 : Int32))] below meth c s₁ [] 0 0 := Stand.of_body Bd
  have e0 : s₁.heap = h0 := by rw [← hh, Bd.state]; rfl
  have N0 := Fr.nil n0
  refine (?_ : own_Fin p e below _ _)
  refine own_st (fun t k => castTop (ef_3_RRIJI m a1 a2 i3 j4 (1 : Int32)) k) ?_
  show own_Fin p e below _ (s₁.setTop (mkF m 0 #[.val (.ref a1), .val (.ref a2), .val (.int i3), .val (.long j4), .second, .val (.int (1 : Int32))] []))
  refine own_st (fun t k => XS.aloadN X0.here hx rfl (hb hby d3_0) rfl rfl k) ?_
  show own_Fin p e below _ (s₁.setTop (mkF m 1 #[.val (.ref a1), .val (.ref a2), .val (.int i3), .val (.long j4), .second, .val (.int (1 : Int32))] [(.ref a1)]))
  obtain ⟨T1, X1, e1, st1⟩ := initO X0 hx hZ hown (hw _ (List.mem_of_getElem? (i := 17) rfl)) (hw _ (List.mem_of_getElem? (i := 18) rfl)) (hw _ (List.mem_of_getElem? (i := 19) rfl)) e0 (g := (mkF m 1 #[.val (.ref a1), .val (.ref a2), .val (.int i3), .val (.long j4), .second, .val (.int (1 : Int32))] [(.ref a1)])) rfl (by rw [hml]; rfl) rfl (hb hby d3_1) (by decide) (W := 0) (by show 2 * 0 + _ ≤ _; exact Nat.le_of_eq rfl) (by decide)
  refine own_st st1 ?_
  show own_Fin p e below _ (T1.setTop (mkF m 4 #[.val (.ref a1), .val (.ref a2), .val (.int i3), .val (.long j4), .second, .val (.int (1 : Int32))] []))
  refine own_st (fun t k => XS.aloadN X1.here hx rfl (hb hby d3_4) rfl rfl k) ?_
  show own_Fin p e below _ (T1.setTop (mkF m 5 #[.val (.ref a1), .val (.ref a2), .val (.int i3), .val (.long j4), .second, .val (.int (1 : Int32))] [(.ref a1)]))
  refine own_st (fun t k => XS.aloadN X1.here hx rfl (hb hby d3_5) rfl rfl k) ?_
  show own_Fin p e below _ (T1.setTop (mkF m 6 #[.val (.ref a1), .val (.ref a2), .val (.int i3), .val (.long j4), .second, .val (.int (1 : Int32))] [(.ref a2), (.ref a1)]))
  obtain ⟨T2, h2, X2, e2, W2, st2⟩ := putF X1 hx hZ hown (host := "") (Or.inl (hw _ (List.mem_of_getElem? (i := 20) rfl))) Via.refl e1 P0 P1 (Or.inr ⟨(hw _ (List.mem_of_getElem? (i := 21) rfl)), rfl, hnm⟩) (hw _ (List.mem_of_getElem? (i := 10) rfl)) (ty := (.object "com/example/deioces/deioces/Message$Kind")) (by decide) rfl rfl (g := (mkF m 6 #[.val (.ref a1), .val (.ref a2), .val (.int i3), .val (.long j4), .second, .val (.int (1 : Int32))] [(.ref a2), (.ref a1)])) rfl rfl (hb hby d3_6)
  have F2 : Fld Z h2 a1 "com/example/deioces/deioces/Message" "kind" "Lcom/example/deioces/deioces/Message$Kind;" (.ref a2) := P0.same W2
  have N2 := Fr.snoc X2 N0 P2
  have Z3 : n0 ≤ Array.size h2 := Nat.le_trans Z0 (Keep.of_wr W2).1
  have KC3 : Keep h0 h2 [a1] := (Keep.refl h0 [a1]).wr W2 (Or.inl (List.mem_of_getElem? (i := 0) rfl))
  refine own_st st2 ?_
  show own_Fin p e below _ (T2.setTop (mkF m 9 #[.val (.ref a1), .val (.ref a2), .val (.int i3), .val (.long j4), .second, .val (.int (1 : Int32))] []))
  refine own_st (fun t k => XS.aloadN X2.here hx rfl (hb hby d3_9) rfl rfl k) ?_
  show own_Fin p e below _ (T2.setTop (mkF m 10 #[.val (.ref a1), .val (.ref a2), .val (.int i3), .val (.long j4), .second, .val (.int (1 : Int32))] [(.ref a1)]))
  refine own_st (fun t k => XS.iloadN X2.here hx rfl (hb hby d3_10) rfl k) ?_
  show own_Fin p e below _ (T2.setTop (mkF m 11 #[.val (.ref a1), .val (.ref a2), .val (.int i3), .val (.long j4), .second, .val (.int (1 : Int32))] [(.int i3), (.ref a1)]))
  have F4 : Fld Z h2 a1 "com/example/deioces/deioces/Message" "sender" "I" (.int (0 : Int32)) := (P3.other W2 (Or.inr (slot_ne (Or.inr (hw _ (List.mem_of_getElem? (i := 23) rfl))) (Or.inr (hw _ (List.mem_of_getElem? (i := 21) rfl))) (by decide) (t := .int) (t' := (.object "com/example/deioces/deioces/Message$Kind")) (by decide) (by decide))))
  have F5 : Exa Z h2 a1 "com/example/deioces/deioces/Message" := (P1.wr W2)
  obtain ⟨T6, h6, X6, e6, W6, st6⟩ := putF X2 hx hZ hown (host := "") (Or.inl (hw _ (List.mem_of_getElem? (i := 22) rfl))) Via.refl e2 F4 F5 (Or.inr ⟨(hw _ (List.mem_of_getElem? (i := 23) rfl)), rfl, hnm⟩) (hw _ (List.mem_of_getElem? (i := 10) rfl)) (ty := .int) (by decide) rfl rfl (g := (mkF m 11 #[.val (.ref a1), .val (.ref a2), .val (.int i3), .val (.long j4), .second, .val (.int (1 : Int32))] [(.int i3), (.ref a1)])) rfl rfl (hb hby d3_11)
  have F6 : Fld Z h6 a1 "com/example/deioces/deioces/Message" "sender" "I" (.int i3) := F4.same W6
  have N6 := Fr.snoc X6 N2 P2
  have Z7 : n0 ≤ Array.size h6 := Nat.le_trans Z3 (Keep.of_wr W6).1
  have KC7 : Keep h0 h6 [a1] := KC3.wr W6 (Or.inl (List.mem_of_getElem? (i := 0) rfl))
  refine own_st st6 ?_
  show own_Fin p e below _ (T6.setTop (mkF m 14 #[.val (.ref a1), .val (.ref a2), .val (.int i3), .val (.long j4), .second, .val (.int (1 : Int32))] []))
  refine own_st (fun t k => XS.aloadN X6.here hx rfl (hb hby d3_14) rfl rfl k) ?_
  show own_Fin p e below _ (T6.setTop (mkF m 15 #[.val (.ref a1), .val (.ref a2), .val (.int i3), .val (.long j4), .second, .val (.int (1 : Int32))] [(.ref a1)]))
  refine own_st (fun t k => XS.lloadN X6.here hx rfl (hb hby d3_15) rfl k) ?_
  show own_Fin p e below _ (T6.setTop (mkF m 16 #[.val (.ref a1), .val (.ref a2), .val (.int i3), .val (.long j4), .second, .val (.int (1 : Int32))] [(.long j4), (.ref a1)]))
  have F8 : Fld Z h6 a1 "com/example/deioces/deioces/Message" "stamp" "J" (.long (0 : Int64)) := ((P4.other W2 (Or.inr (slot_ne (Or.inr (hw _ (List.mem_of_getElem? (i := 25) rfl))) (Or.inr (hw _ (List.mem_of_getElem? (i := 21) rfl))) (by decide) (t := .long) (t' := (.object "com/example/deioces/deioces/Message$Kind")) (by decide) (by decide)))).other W6 (Or.inr (slot_ne (Or.inr (hw _ (List.mem_of_getElem? (i := 25) rfl))) (Or.inr (hw _ (List.mem_of_getElem? (i := 23) rfl))) (by decide) (t := .long) (t' := .int) (by decide) (by decide))))
  have F9 : Exa Z h6 a1 "com/example/deioces/deioces/Message" := (F5.wr W6)
  obtain ⟨T10, h10, X10, e10, W10, st10⟩ := putF X6 hx hZ hown (host := "") (Or.inl (hw _ (List.mem_of_getElem? (i := 24) rfl))) Via.refl e6 F8 F9 (Or.inr ⟨(hw _ (List.mem_of_getElem? (i := 25) rfl)), rfl, hnm⟩) (hw _ (List.mem_of_getElem? (i := 10) rfl)) (ty := .long) (by decide) rfl rfl (g := (mkF m 16 #[.val (.ref a1), .val (.ref a2), .val (.int i3), .val (.long j4), .second, .val (.int (1 : Int32))] [(.long j4), (.ref a1)])) rfl rfl (hb hby d3_16)
  have F10 : Fld Z h10 a1 "com/example/deioces/deioces/Message" "stamp" "J" (.long j4) := F8.same W10
  have N10 := Fr.snoc X10 N6 P2
  have Z11 : n0 ≤ Array.size h10 := Nat.le_trans Z7 (Keep.of_wr W10).1
  have KC11 : Keep h0 h10 [a1] := KC7.wr W10 (Or.inl (List.mem_of_getElem? (i := 0) rfl))
  refine own_st st10 ?_
  show own_Fin p e below _ (T10.setTop (mkF m 19 #[.val (.ref a1), .val (.ref a2), .val (.int i3), .val (.long j4), .second, .val (.int (1 : Int32))] []))
  refine own_st (fun t k => XS.aloadN X10.here hx rfl (hb hby d3_19) rfl rfl k) ?_
  show own_Fin p e below _ (T10.setTop (mkF m 20 #[.val (.ref a1), .val (.ref a2), .val (.int i3), .val (.long j4), .second, .val (.int (1 : Int32))] [(.ref a1)]))
  refine own_st (fun t k => XS.iload X10.here hx rfl (hb hby d3_20) rfl k) ?_
  show own_Fin p e below _ (T10.setTop (mkF m 22 #[.val (.ref a1), .val (.ref a2), .val (.int i3), .val (.long j4), .second, .val (.int (1 : Int32))] [(.int (1 : Int32)), (.ref a1)]))
  have F12 : Fld Z h10 a1 "com/example/deioces/deioces/Message" "supportive" "Z" (.int (0 : Int32)) := (((P5.other W2 (Or.inr (slot_ne (Or.inr (hw _ (List.mem_of_getElem? (i := 27) rfl))) (Or.inr (hw _ (List.mem_of_getElem? (i := 21) rfl))) (by decide) (t := .boolean) (t' := (.object "com/example/deioces/deioces/Message$Kind")) (by decide) (by decide)))).other W6 (Or.inr (slot_ne (Or.inr (hw _ (List.mem_of_getElem? (i := 27) rfl))) (Or.inr (hw _ (List.mem_of_getElem? (i := 23) rfl))) (by decide) (t := .boolean) (t' := .int) (by decide) (by decide)))).other W10 (Or.inr (slot_ne (Or.inr (hw _ (List.mem_of_getElem? (i := 27) rfl))) (Or.inr (hw _ (List.mem_of_getElem? (i := 25) rfl))) (by decide) (t := .boolean) (t' := .long) (by decide) (by decide))))
  have F13 : Exa Z h10 a1 "com/example/deioces/deioces/Message" := (F9.wr W10)
  obtain ⟨T14, h14, X14, e14, W14, st14⟩ := putF X10 hx hZ hown (host := "") (Or.inl (hw _ (List.mem_of_getElem? (i := 26) rfl))) Via.refl e10 F12 F13 (Or.inr ⟨(hw _ (List.mem_of_getElem? (i := 27) rfl)), rfl, hnm⟩) (hw _ (List.mem_of_getElem? (i := 10) rfl)) (ty := .boolean) (by decide) rfl rfl (g := (mkF m 22 #[.val (.ref a1), .val (.ref a2), .val (.int i3), .val (.long j4), .second, .val (.int (1 : Int32))] [(.int (1 : Int32)), (.ref a1)])) rfl rfl (hb hby d3_22)
  have F14 : Fld Z h14 a1 "com/example/deioces/deioces/Message" "supportive" "Z" (.int (1 : Int32)) := F12.same W14
  have N14 := Fr.snoc X14 N10 P2
  have Z15 : n0 ≤ Array.size h14 := Nat.le_trans Z11 (Keep.of_wr W14).1
  have KC15 : Keep h0 h14 [a1] := KC11.wr W14 (Or.inl (List.mem_of_getElem? (i := 0) rfl))
  refine own_st st14 ?_
  show own_Fin p e below _ (T14.setTop (mkF m 25 #[.val (.ref a1), .val (.ref a2), .val (.int i3), .val (.long j4), .second, .val (.int (1 : Int32))] []))
  have F16 : Fld Z h14 a1 "com/example/deioces/deioces/Message" "kind" "Lcom/example/deioces/deioces/Message$Kind;" (.ref a2) := (((F2.other W6 (Or.inr (slot_ne (Or.inr (hw _ (List.mem_of_getElem? (i := 21) rfl))) (Or.inr (hw _ (List.mem_of_getElem? (i := 23) rfl))) (by decide) (t := (.object "com/example/deioces/deioces/Message$Kind")) (t' := .int) (by decide) (by decide)))).other W10 (Or.inr (slot_ne (Or.inr (hw _ (List.mem_of_getElem? (i := 21) rfl))) (Or.inr (hw _ (List.mem_of_getElem? (i := 25) rfl))) (by decide) (t := (.object "com/example/deioces/deioces/Message$Kind")) (t' := .long) (by decide) (by decide)))).other W14 (Or.inr (slot_ne (Or.inr (hw _ (List.mem_of_getElem? (i := 21) rfl))) (Or.inr (hw _ (List.mem_of_getElem? (i := 27) rfl))) (by decide) (t := (.object "com/example/deioces/deioces/Message$Kind")) (t' := .boolean) (by decide) (by decide))))
  have F17 : Fld Z h14 a1 "com/example/deioces/deioces/Message" "sender" "I" (.int i3) := ((F6.other W10 (Or.inr (slot_ne (Or.inr (hw _ (List.mem_of_getElem? (i := 23) rfl))) (Or.inr (hw _ (List.mem_of_getElem? (i := 25) rfl))) (by decide) (t := .int) (t' := .long) (by decide) (by decide)))).other W14 (Or.inr (slot_ne (Or.inr (hw _ (List.mem_of_getElem? (i := 23) rfl))) (Or.inr (hw _ (List.mem_of_getElem? (i := 27) rfl))) (by decide) (t := .int) (t' := .boolean) (by decide) (by decide))))
  have F18 : Fld Z h14 a1 "com/example/deioces/deioces/Message" "stamp" "J" (.long j4) := (F10.other W14 (Or.inr (slot_ne (Or.inr (hw _ (List.mem_of_getElem? (i := 25) rfl))) (Or.inr (hw _ (List.mem_of_getElem? (i := 27) rfl))) (by decide) (t := .long) (t' := .boolean) (by decide) (by decide))))
  obtain ⟨fs, hr, hrun, hended, hW, hsame⟩ := X14.leave (v := none) (fun _ => rfl)
  have hQf : Q3_14 Z a1 a2 i3 j4 h0 n0 _ h14 _ := ⟨rfl, N14, KC15, F16, F17, F18, F14⟩
  exact ⟨_, _, X14.returnOut hx Bd.returns (hb hby d3_25) hr, hrun, hended, _, _, rfl, (by show Q3_14 Z a1 a2 i3 j4 h0 n0 _ T14.heap _; rw [e14]; exact hQf), ⟨_, rfl⟩, hW, hsame.mono (by decide) (by decide)⟩
def Q15_15 (Z : State) (i1 : Int32) (j2 : Int64) (a3 : Addr) (h0 : Heap) (n0 : Nat) (v : Option Value) (h : Heap) (L : List Loc) : Prop := ∃ b1 : Addr, v = some (.ref b1) ∧ Fr n0 L ∧ Keep h0 h [] ∧ Array.size h0 ≤ b1 ∧ Exa Z h b1 "com/example/deioces/deioces/Message" ∧ Fld Z h b1 "com/example/deioces/deioces/Message" "kind" "Lcom/example/deioces/deioces/Message$Kind;" (.ref a3) ∧ Fld Z h b1 "com/example/deioces/deioces/Message" "sender" "I" (.int i1) ∧ Fld Z h b1 "com/example/deioces/deioces/Message" "stamp" "J" (.long j2) ∧ Fld Z h b1 "com/example/deioces/deioces/Message" "supportive" "Z" (.int (1 : Int32))
set_option maxRecDepth 65536 in
set_option maxHeartbeats 40000000 in
theorem rm15_15 (l : Launch) (Z : State) (a0 : Array Value) (hw : ∀ d ∈ tables_1, d.before a0 Z = true) (ws : List Jvm.Cond) (i1 : Int32) (j2 : Int64) (a3 : Addr) (h0 : Heap) (n0 : Nat) (Z0 : n0 ≤ Array.size h0) (P0 : Sta Z h0 "com/example/deioces/deioces/Message$Kind" "REPLY" "Lcom/example/deioces/deioces/Message$Kind;" (.ref a3)) :
    MetFree l (⟨"com/example/deioces/deioces/Message", "reply", "(IJZ)Lcom/example/deioces/deioces/Message;"⟩ : MethodName) (head1 (Jvm.Cond.code (⟨"com/example/deioces/deioces/Message", "reply", "(IJZ)Lcom/example/deioces/deioces/Message;"⟩ : MethodName) prog_31_method_3_code 4 (some (.object "com/example/deioces/deioces/Message")) :: ws) ({ frames := 2, cells := 1, slots := 4, locals := 30 } : Room)) (fun a U => a = #[(.int i1), (.long j2), (.int (1 : Int32))] ∧ Z.Warmed39 U.vm ∧ U.heap = h0) (fun _ _ _ _ _ => True) (fun _ U o U' => ∃ v L, o = .returned v ∧ Q15_15 Z i1 j2 a3 h0 n0 v U'.heap L ∧ FrameEnd U o U' L ({ frames := 2, cells := 1, slots := 4, locals := 30 } : Room).cells ({ frames := 2, cells := 1, slots := 4, locals := 30 } : Room).slots) := by
  refine MetFree.of_bodySF (plainFor_of_name pn_com_example_deioces_deioces_Message) hisR ?_
  intro p e s m args below meth c s₁ Bd hml0 hP hK
  obtain ⟨rfl, hZ, hh⟩ := hP
  have hx := Bd.exec
  have hby := Bd.bytes
  have hml : c.maxLocals = 4 := hml0
  have hown : s.vm.findClass "com/example/deioces/deioces/Message" = some m.cls := findClass_of_methodNamed Bd.named
  have hnm := (name_of_methodNamed Bd.named Bd.method).1
  have X0 : Stand p l e ({ frames := 2, cells := 1, slots := 4, locals := 30 } : Room) s m #[(.int i1), (.long j2), (.int (1 : Int32))] below meth c s₁ [] 0 0 := Stand.of_body Bd
  have e0 : s₁.heap = h0 := by rw [← hh, Bd.state]; rfl
  have N0 := Fr.nil n0
  refine (?_ : own_Fin p e below _ _)
  refine own_st (fun t k => castTop (ef_15_IJI m i1 j2 (1 : Int32)) k) ?_
  show own_Fin p e below _ (s₁.setTop (mkF m 0 #[.val (.int i1), .val (.long j2), .second, .val (.int (1 : Int32))] []))
  obtain ⟨T1, h1, X1, e1, E1, A1, D1, -, st1⟩ := newO X0 hx hZ hown (hw _ (List.mem_of_getElem? (i := 9) rfl)) (hw _ (List.mem_of_getElem? (i := 10) rfl)) (hw _ (List.mem_of_getElem? (i := 7) rfl)) e0 (g := (mkF m 0 #[.val (.int i1), .val (.long j2), .second, .val (.int (1 : Int32))] [])) rfl (hb hby d15_0) (by decide) (by decide)
  obtain ⟨b1, g1⟩ : ∃ z, z = Array.size h0 := ⟨_, rfl⟩
  rw [show Array.size h0 = b1 from g1.symm] at A1 D1 st1
  have le_b1 : Array.size h0 ≤ b1 := Nat.le_of_eq g1.symm
  have sz_b1 : h0.size ≤ b1 := Nat.le_trans (Keep.refl h0 []).1 le_b1
  have g_b1 : n0 ≤ b1 := Nat.le_trans Z0 sz_b1
  have Z2 : n0 ≤ Array.size h1 := Nat.le_trans Z0 E1.1
  have KC2 : Keep h0 h1 [] := (Keep.refl h0 []).ext E1
  have F1_21 : Fld Z h1 b1 "com/example/deioces/deioces/Message" "kind" "Lcom/example/deioces/deioces/Message$Kind;" .null := D1 (Or.inr (hw _ (List.mem_of_getElem? (i := 21) rfl))) (ty := (.object "com/example/deioces/deioces/Message$Kind")) (by decide)
  have F1_23 : Fld Z h1 b1 "com/example/deioces/deioces/Message" "sender" "I" (.int (0 : Int32)) := D1 (Or.inr (hw _ (List.mem_of_getElem? (i := 23) rfl))) (ty := .int) (by decide)
  have F1_25 : Fld Z h1 b1 "com/example/deioces/deioces/Message" "stamp" "J" (.long (0 : Int64)) := D1 (Or.inr (hw _ (List.mem_of_getElem? (i := 25) rfl))) (ty := .long) (by decide)
  have F1_27 : Fld Z h1 b1 "com/example/deioces/deioces/Message" "supportive" "Z" (.int (0 : Int32)) := D1 (Or.inr (hw _ (List.mem_of_getElem? (i := 27) rfl))) (ty := .boolean) (by decide)
  refine own_st st1 ?_
  show own_Fin p e below _ (T1.setTop (mkF m 3 #[.val (.int i1), .val (.long j2), .second, .val (.int (1 : Int32))] [(.ref b1)]))
  refine own_st (fun t k => XS.dup X1.here hx rfl (hb hby d15_3) rfl rfl k) ?_
  show own_Fin p e below _ (T1.setTop (mkF m 4 #[.val (.int i1), .val (.long j2), .second, .val (.int (1 : Int32))] [(.ref b1), (.ref b1)]))
  have F3 : Sta Z h1 "com/example/deioces/deioces/Message$Kind" "REPLY" "Lcom/example/deioces/deioces/Message$Kind;" (.ref a3) := (P0.ext E1)
  obtain ⟨T4, X4, e4, st4⟩ := getS2 X1 hx hZ hown (host := "") (Or.inl (hw _ (List.mem_of_getElem? (i := 92) rfl))) Via.refl e1 F3 (g := (mkF m 4 #[.val (.int i1), .val (.long j2), .second, .val (.int (1 : Int32))] [(.ref b1), (.ref b1)])) rfl (hb hby d15_4)
  refine own_st st4 ?_
  show own_Fin p e below _ (T4.setTop (mkF m 7 #[.val (.int i1), .val (.long j2), .second, .val (.int (1 : Int32))] [(.ref a3), (.ref b1), (.ref b1)]))
  refine own_st (fun t k => XS.iloadN X4.here hx rfl (hb hby d15_7) rfl k) ?_
  show own_Fin p e below _ (T4.setTop (mkF m 8 #[.val (.int i1), .val (.long j2), .second, .val (.int (1 : Int32))] [(.int i1), (.ref a3), (.ref b1), (.ref b1)]))
  refine own_st (fun t k => XS.lloadN X4.here hx rfl (hb hby d15_8) rfl k) ?_
  show own_Fin p e below _ (T4.setTop (mkF m 9 #[.val (.int i1), .val (.long j2), .second, .val (.int (1 : Int32))] [(.long j2), (.int i1), (.ref a3), (.ref b1), (.ref b1)]))
  refine own_st (fun t k => XS.iloadN X4.here hx rfl (hb hby d15_9) rfl k) ?_
  show own_Fin p e below _ (T4.setTop (mkF m 10 #[.val (.int i1), .val (.long j2), .second, .val (.int (1 : Int32))] [(.int (1 : Int32)), (.long j2), (.int i1), (.ref a3), (.ref b1), (.ref b1)]))
  obtain ⟨_, _, ⟨T5, L5, k5, n5⟩, -, X5, ⟨Lc5, hQ5, l5, y5, z5⟩, st5⟩ := X4.specialBack hx (y := (⟨"com/example/deioces/deioces/Message", "<init>", "(Lcom/example/deioces/deioces/Message$Kind;IJZ)V"⟩ : MethodName)) rfl hown (mvT hZ (hw _ (List.mem_of_getElem? (i := 14) rfl))) (mvT hZ (hw _ (List.mem_of_getElem? (i := 15) rfl))) (mvT hZ (hw _ (List.mem_of_getElem? (i := 16) rfl))) (by decide) (backOf (W := 1) (rm3_14 l Z a0 hw [] b1 a3 i1 j2 h1 n0 Z2 F1_21 A1 g_b1 F1_23 F1_25 F1_27) hZ (hw _ (List.mem_of_getElem? (i := 16) rfl)) (hw _ (List.mem_of_getElem? (i := 7) rfl)) (by decide) (by decide)) (g := (mkF m 10 #[.val (.int i1), .val (.long j2), .second, .val (.int (1 : Int32))] [(.int (1 : Int32)), (.long j2), (.int i1), (.ref a3), (.ref b1), (.ref b1)])) rfl (by rw [hml]; rfl) (Steps.refl _) (a := b1) (argsL := [(.ref a3), (.int i1), (.long j2), (.int (1 : Int32))]) (rest := [(.ref b1)]) (lenOf pd__Lcom_example_deioces_deioces_Message_Kind_IJZ_V rfl) rfl (by show 2 * 0 + _ ≤ _; exact Nat.le_of_eq rfl) (hb hby d15_10) (fun _ _ => ⟨rfl, e4, (by decide : 1 + 0 ≤ _), (by decide : 4 + 0 ≤ _)⟩)
  dsimp only [Pt.U, Pt.locs, Pt.cells, Pt.slots] at X5 l5 y5 z5 st5 hQ5
  subst l5 y5 z5
  obtain ⟨rfl, N5q, K5q, G5_0, G5_1, G5_2, G5_3⟩ := hQ5
  have Z6 : n0 ≤ Array.size T5.heap := Nat.le_trans Z2 K5q.1
  have KC6 : Keep h0 T5.heap [] := KC2.trans K5q (allS (Or.inr sz_b1) all0)
  have N5 := Fr.app N0 N5q
  refine own_tr st5 ?_
  show own_Fin p e below _ (T5.setTop (mkF m 13 #[.val (.int i1), .val (.long j2), .second, .val (.int (1 : Int32))] [(.ref b1)]))
  have F7 : Exa Z T5.heap b1 "com/example/deioces/deioces/Message" := (A1.keep K5q)
  obtain ⟨fs, hr, hrun, hended, hW, hsame⟩ := X5.leave (v := some (.ref b1)) (fun h => by rw [Bd.returns] at h; cases h)
  have hQf : Q15_15 Z i1 j2 a3 h0 n0 _ T5.heap _ := ⟨b1, rfl, N5, KC6, sz_b1, F7, G5_0, G5_1, G5_2, G5_3⟩
  exact ⟨_, _, retOut X5 hx (t := (.object "com/example/deioces/deioces/Message")) Bd.returns rfl (Or.inr (Or.inr (Or.inr (Or.inr ⟨rfl, rfl, rfl⟩)))) (hb hby d15_13) hr, hrun, hended, _, _, rfl, hQf, ⟨_, rfl⟩, hW, hsame.mono (by decide) (by decide)⟩
def Q1_16 (Z : State) (i1 : Int32) (i2 : Int32) (j3 : Int64) (a4 : Addr) (h0 : Heap) (n0 : Nat) (v : Option Value) (h : Heap) (L : List Loc) : Prop := ∃ b1_0 : Addr, v = some (.ref b1_0) ∧ Fr n0 L ∧ Keep h0 h [] ∧ Array.size h0 ≤ b1_0 ∧ Exa Z h b1_0 "com/example/deioces/deioces/Message" ∧ Fld Z h b1_0 "com/example/deioces/deioces/Message" "kind" "Lcom/example/deioces/deioces/Message$Kind;" (.ref a4) ∧ Fld Z h b1_0 "com/example/deioces/deioces/Message" "sender" "I" (.int i2) ∧ Fld Z h b1_0 "com/example/deioces/deioces/Message" "stamp" "J" (.long j3) ∧ Fld Z h b1_0 "com/example/deioces/deioces/Message" "supportive" "Z" (.int (1 : Int32))
set_option maxRecDepth 65536 in
set_option maxHeartbeats 40000000 in
theorem rm1_16 (l : Launch) (Z : State) (a0 : Array Value) (hw : ∀ d ∈ tables_1, d.before a0 Z = true) (ws : List Jvm.Cond) (i1 : Int32) (i2 : Int32) (j3 : Int64) (a4 : Addr) (h0 : Heap) (n0 : Nat) (Z0 : n0 ≤ Array.size h0) (P0 : (i1 &&& (3 : Int32)) = (1 : Int32)) (P1 : ¬ ((i1 &&& (4 : Int32)) = (0 : Int32))) (P2 : Sta Z h0 "com/example/deioces/deioces/Message$Kind" "REPLY" "Lcom/example/deioces/deioces/Message$Kind;" (.ref a4)) :
    MetFree l (⟨"com/example/deioces/deioces/DatagramEchoingPinLaw", "makeMessage", "(IIJ)Lcom/example/deioces/deioces/Message;"⟩ : MethodName) (head1 (Jvm.Cond.code (⟨"com/example/deioces/deioces/DatagramEchoingPinLaw", "makeMessage", "(IIJ)Lcom/example/deioces/deioces/Message;"⟩ : MethodName) method_2_code 5 (some (.object "com/example/deioces/deioces/Message")) :: ws) ({ frames := 3, cells := 1, slots := 4, locals := 45 } : Room)) (fun a U => a = #[(.int i1), (.int i2), (.long j3)] ∧ Z.Warmed39 U.vm ∧ U.heap = h0) (fun _ _ _ _ _ => True) (fun _ U o U' => ∃ v L, o = .returned v ∧ Q1_16 Z i1 i2 j3 a4 h0 n0 v U'.heap L ∧ FrameEnd U o U' L ({ frames := 3, cells := 1, slots := 4, locals := 45 } : Room).cells ({ frames := 3, cells := 1, slots := 4, locals := 45 } : Room).slots) := by
  refine MetFree.of_bodySF (plainFor_of_name pn_com_example_deioces_deioces_DatagramEchoingPinLaw) hisR ?_
  intro p e s m args below meth c s₁ Bd hml0 hP hK
  obtain ⟨rfl, hZ, hh⟩ := hP
  have hx := Bd.exec
  have hby := Bd.bytes
  have hml : c.maxLocals = 5 := hml0
  have hown : s.vm.findClass "com/example/deioces/deioces/DatagramEchoingPinLaw" = some m.cls := findClass_of_methodNamed Bd.named
  have hnm := (name_of_methodNamed Bd.named Bd.method).1
  have X0 : Stand p l e ({ frames := 3, cells := 1, slots := 4, locals := 45 } : Room) s m #[(.int i1), (.int i2), (.long j3)] below meth c s₁ [] 0 0 := Stand.of_body Bd
  have e0 : s₁.heap = h0 := by rw [← hh, Bd.state]; rfl
  have N0 := Fr.nil n0
  refine (?_ : own_Fin p e below _ _)
  refine own_st (fun t k => castTop (ef_1_IIJ m i1 i2 j3) k) ?_
  show own_Fin p e below _ (s₁.setTop (mkF m 0 #[.val (.int i1), .val (.int i2), .val (.long j3), .second, .unset] []))
  refine own_st (fun t k => XS.iloadN X0.here hx rfl (hb hby d1_0) rfl k) ?_
  show own_Fin p e below _ (s₁.setTop (mkF m 1 #[.val (.int i1), .val (.int i2), .val (.long j3), .second, .unset] [(.int i1)]))
  refine own_st (fun t k => XS.iconst X0.here hx rfl (hb hby d1_1) k) ?_
  show own_Fin p e below _ (s₁.setTop (mkF m 2 #[.val (.int i1), .val (.int i2), .val (.long j3), .second, .unset] [(.int (3 : Int32)), (.int i1)]))
  refine own_st (fun t k => XS.iand X0.here hx rfl (hb hby d1_2) rfl k) ?_
  show own_Fin p e below _ (s₁.setTop (mkF m 3 #[.val (.int i1), .val (.int i2), .val (.long j3), .second, .unset] [(.int (i1 &&& (3 : Int32)))]))
  rw [P0]
  show own_Fin p e below _ (s₁.setTop (mkF m 3 #[.val (.int i1), .val (.int i2), .val (.long j3), .second, .unset] [(.int (1 : Int32))]))
  refine own_st (fun t k => XS.istore X0.here hx rfl (hb hby d1_3) rfl (l' := #[.val (.int i1), .val (.int i2), .val (.long j3), .second, .val (.int (1 : Int32))]) rfl k) ?_
  show own_Fin p e below _ (s₁.setTop (mkF m 5 #[.val (.int i1), .val (.int i2), .val (.long j3), .second, .val (.int (1 : Int32))] []))
  refine own_st (fun t k => XS.iload X0.here hx rfl (hb hby d1_5) rfl k) ?_
  show own_Fin p e below _ (s₁.setTop (mkF m 7 #[.val (.int i1), .val (.int i2), .val (.long j3), .second, .val (.int (1 : Int32))] [(.int (1 : Int32))]))
  refine own_st (fun t k => XS.ifYes X0.here hx rfl (pc0 := 7) (pc' := 16) rfl (hb hby d1_7) rfl (by decide) (by decide) (by decide) k) ?_
  show own_Fin p e below _ (s₁.setTop (mkF m 16 #[.val (.int i1), .val (.int i2), .val (.long j3), .second, .val (.int (1 : Int32))] []))
  refine own_st (fun t k => XS.iload X0.here hx rfl (hb hby d1_16) rfl k) ?_
  show own_Fin p e below _ (s₁.setTop (mkF m 18 #[.val (.int i1), .val (.int i2), .val (.long j3), .second, .val (.int (1 : Int32))] [(.int (1 : Int32))]))
  refine own_st (fun t k => XS.iconst X0.here hx rfl (hb hby d1_18) k) ?_
  show own_Fin p e below _ (s₁.setTop (mkF m 19 #[.val (.int i1), .val (.int i2), .val (.long j3), .second, .val (.int (1 : Int32))] [(.int (1 : Int32)), (.int (1 : Int32))]))
  refine own_st (fun t k => XS.icmpNo X0.here hx rfl (hb hby d1_19) rfl (by decide) k) ?_
  show own_Fin p e below _ (s₁.setTop (mkF m 22 #[.val (.int i1), .val (.int i2), .val (.long j3), .second, .val (.int (1 : Int32))] []))
  refine own_st (fun t k => XS.iloadN X0.here hx rfl (hb hby d1_22) rfl k) ?_
  show own_Fin p e below _ (s₁.setTop (mkF m 23 #[.val (.int i1), .val (.int i2), .val (.long j3), .second, .val (.int (1 : Int32))] [(.int i2)]))
  refine own_st (fun t k => XS.lloadN X0.here hx rfl (hb hby d1_23) rfl k) ?_
  show own_Fin p e below _ (s₁.setTop (mkF m 24 #[.val (.int i1), .val (.int i2), .val (.long j3), .second, .val (.int (1 : Int32))] [(.long j3), (.int i2)]))
  refine own_st (fun t k => XS.iloadN X0.here hx rfl (hb hby d1_24) rfl k) ?_
  show own_Fin p e below _ (s₁.setTop (mkF m 25 #[.val (.int i1), .val (.int i2), .val (.long j3), .second, .val (.int (1 : Int32))] [(.int i1), (.long j3), (.int i2)]))
  refine own_st (fun t k => XS.iconst X0.here hx rfl (hb hby d1_25) k) ?_
  show own_Fin p e below _ (s₁.setTop (mkF m 26 #[.val (.int i1), .val (.int i2), .val (.long j3), .second, .val (.int (1 : Int32))] [(.int (4 : Int32)), (.int i1), (.long j3), (.int i2)]))
  refine own_st (fun t k => XS.iand X0.here hx rfl (hb hby d1_26) rfl k) ?_
  show own_Fin p e below _ (s₁.setTop (mkF m 27 #[.val (.int i1), .val (.int i2), .val (.long j3), .second, .val (.int (1 : Int32))] [(.int (i1 &&& (4 : Int32))), (.long j3), (.int i2)]))
  refine own_st (fun t k => XS.ifNo X0.here hx rfl (hb hby d1_27) rfl ((if0 _ _).trans (feq P1).1) k) ?_
  show own_Fin p e below _ (s₁.setTop (mkF m 30 #[.val (.int i1), .val (.int i2), .val (.long j3), .second, .val (.int (1 : Int32))] [(.long j3), (.int i2)]))
  refine own_st (fun t k => XS.iconst X0.here hx rfl (hb hby d1_30) k) ?_
  show own_Fin p e below _ (s₁.setTop (mkF m 31 #[.val (.int i1), .val (.int i2), .val (.long j3), .second, .val (.int (1 : Int32))] [(.int (1 : Int32)), (.long j3), (.int i2)]))
  refine own_st (fun t k => XS.goto X0.here hx rfl (pc0 := 31) (pc' := 35) rfl (hb hby d1_31) (by decide) (by decide) k) ?_
  show own_Fin p e below _ (s₁.setTop (mkF m 35 #[.val (.int i1), .val (.int i2), .val (.long j3), .second, .val (.int (1 : Int32))] [(.int (1 : Int32)), (.long j3), (.int i2)]))
  obtain ⟨_, _, ⟨T1, L1, k1, n1⟩, -, X1, ⟨Lc1, hQ1, l1, y1, z1⟩, st1⟩ := Jvm.LawKit.callS X0 hx (y := (⟨"com/example/deioces/deioces/Message", "reply", "(IJZ)Lcom/example/deioces/deioces/Message;"⟩ : MethodName)) hown (mvT hZ (hw _ (List.mem_of_getElem? (i := 89) rfl))) (mvT hZ (hw _ (List.mem_of_getElem? (i := 90) rfl))) (mvT hZ (hw _ (List.mem_of_getElem? (i := 7) rfl))) (mvT hZ (hw _ (List.mem_of_getElem? (i := 91) rfl))) (by decide) (backOf (W := 0) (rm15_15 l Z a0 hw [] i2 j3 a4 h0 n0 Z0 P2) hZ (hw _ (List.mem_of_getElem? (i := 91) rfl)) (hw _ (List.mem_of_getElem? (i := 7) rfl)) (by decide) (by decide)) (g := (mkF m 35 #[.val (.int i1), .val (.int i2), .val (.long j3), .second, .val (.int (1 : Int32))] [(.int (1 : Int32)), (.long j3), (.int i2)])) rfl (by rw [hml]; rfl) (argsL := [(.int i2), (.long j3), (.int (1 : Int32))]) (rest := []) (lenOf pd__IJZ_Lcom_example_deioces_deioces_Message_ rfl) rfl (by show 2 * 0 + _ ≤ _; exact Nat.le_of_eq rfl) (hb hby d1_35) (fun _ _ => ⟨rfl, e0, (by decide : 0 + 1 ≤ _), (by decide : 0 + 4 ≤ _)⟩)
  dsimp only [Pt.U, Pt.locs, Pt.cells, Pt.slots] at X1 l1 y1 z1 st1 hQ1
  subst l1 y1 z1
  obtain ⟨b1_0, rfl, N1q, K1q, le_b1_0, G1_0, G1_1, G1_2, G1_3, G1_4⟩ := hQ1
  have sz_b1_0 : h0.size ≤ b1_0 := Nat.le_trans (Keep.refl h0 []).1 le_b1_0
  have g_b1_0 : n0 ≤ b1_0 := Nat.le_trans Z0 sz_b1_0
  have Z2 : n0 ≤ Array.size T1.heap := Nat.le_trans Z0 K1q.1
  have KC2 : Keep h0 T1.heap [] := (Keep.refl h0 []).trans K1q all0
  have N1 := Fr.app N0 N1q
  refine own_st st1 ?_
  show own_Fin p e below _ (T1.setTop (mkF m 38 #[.val (.int i1), .val (.int i2), .val (.long j3), .second, .val (.int (1 : Int32))] [(.ref b1_0)]))
  obtain ⟨fs, hr, hrun, hended, hW, hsame⟩ := X1.leave (v := some (.ref b1_0)) (fun h => by rw [Bd.returns] at h; cases h)
  have hQf : Q1_16 Z i1 i2 j3 a4 h0 n0 _ T1.heap _ := ⟨b1_0, rfl, N1, KC2, sz_b1_0, G1_0, G1_1, G1_2, G1_3, G1_4⟩
  exact ⟨_, _, retOut X1 hx (t := (.object "com/example/deioces/deioces/Message")) Bd.returns rfl (Or.inr (Or.inr (Or.inr (Or.inr ⟨rfl, rfl, rfl⟩)))) (hb hby d1_38) hr, hrun, hended, _, _, rfl, hQf, ⟨_, rfl⟩, hW, hsame.mono (by decide) (by decide)⟩
set_option maxRecDepth 65536 in
set_option maxHeartbeats 40000000 in
theorem rm8_17 (l : Launch) (Z : State) (a0 : Array Value) (hw : ∀ d ∈ tables_1, d.before a0 Z = true) (ws : List Jvm.Cond) (a1 : Addr) (a2 : Addr) (i3 : Int32) (j4 : Int64) (h0 : Heap) (n0 : Nat) (Z0 : n0 ≤ Array.size h0) (P0 : Exa Z h0 a1 "com/example/deioces/deioces/Message") (P1 : Fld Z h0 a1 "com/example/deioces/deioces/Message" "kind" "Lcom/example/deioces/deioces/Message$Kind;" (.ref a2)) (P2 : Fld Z h0 a1 "com/example/deioces/deioces/Message" "sender" "I" (.int i3)) (P3 : Fld Z h0 a1 "com/example/deioces/deioces/Message" "stamp" "J" (.long j4)) (P4 : Fld Z h0 a1 "com/example/deioces/deioces/Message" "supportive" "Z" (.int (1 : Int32))) :
    MetFree l (⟨"com/example/deioces/deioces/Message", "equals", "(Ljava/lang/Object;)Z"⟩ : MethodName) (head1 (Jvm.Cond.code (⟨"com/example/deioces/deioces/Message", "equals", "(Ljava/lang/Object;)Z"⟩ : MethodName) prog_31_method_10_code 3 (some .boolean) :: ws) ({ frames := 0, cells := 0, slots := 0, locals := 0 } : Room)) (fun a U => a = #[(.ref a1), (.ref a1)] ∧ Z.Warmed39 U.vm ∧ U.heap = h0) (fun _ _ _ _ _ => True) (fun _ U o U' => ∃ v L, o = .returned v ∧ own_Q h0 n0 (some (.int (1 : Int32))) v U'.heap L ∧ FrameEnd U o U' L ({ frames := 0, cells := 0, slots := 0, locals := 0 } : Room).cells ({ frames := 0, cells := 0, slots := 0, locals := 0 } : Room).slots) := by
  refine MetFree.of_bodySF (plainFor_of_name pn_com_example_deioces_deioces_Message) hisR ?_
  intro p e s m args below meth c s₁ Bd hml0 hP hK
  obtain ⟨rfl, hZ, hh⟩ := hP
  have hx := Bd.exec
  have hby := Bd.bytes
  have hml : c.maxLocals = 3 := hml0
  have hown : s.vm.findClass "com/example/deioces/deioces/Message" = some m.cls := findClass_of_methodNamed Bd.named
  have hnm := (name_of_methodNamed Bd.named Bd.method).1
  have X0 : Stand p l e ({ frames := 0, cells := 0, slots := 0, locals := 0 } : Room) s m #[(.ref a1), (.ref a1)] below meth c s₁ [] 0 0 := Stand.of_body Bd
  have e0 : s₁.heap = h0 := by rw [← hh, Bd.state]; rfl
  have N0 := Fr.nil n0
  refine (?_ : own_Fin p e below _ _)
  refine own_st (fun t k => castTop (ef_8_RR m a1 a1) k) ?_
  show own_Fin p e below _ (s₁.setTop (mkF m 0 #[.val (.ref a1), .val (.ref a1), .unset] []))
  refine own_st (fun t k => XS.aloadN X0.here hx rfl (hb hby d8_0) rfl rfl k) ?_
  show own_Fin p e below _ (s₁.setTop (mkF m 1 #[.val (.ref a1), .val (.ref a1), .unset] [(.ref a1)]))
  obtain ⟨T1, X1, e1, st1⟩ := instY X0 hx hZ hown (hw _ (List.mem_of_getElem? (i := 9) rfl)) e0 (Ins.self P0) (g := (mkF m 1 #[.val (.ref a1), .val (.ref a1), .unset] [(.ref a1)])) rfl rfl (hb hby d8_1)
  refine own_st st1 ?_
  show own_Fin p e below _ (T1.setTop (mkF m 4 #[.val (.ref a1), .val (.ref a1), .unset] [(.int (1 : Int32))]))
  refine own_st (fun t k => XS.ifYes X1.here hx rfl (pc0 := 4) (pc' := 9) rfl (hb hby d8_4) rfl (by decide) (by decide) (by decide) k) ?_
  show own_Fin p e below _ (T1.setTop (mkF m 9 #[.val (.ref a1), .val (.ref a1), .unset] []))
  refine own_st (fun t k => XS.aloadN X1.here hx rfl (hb hby d8_9) rfl rfl k) ?_
  show own_Fin p e below _ (T1.setTop (mkF m 10 #[.val (.ref a1), .val (.ref a1), .unset] [(.ref a1)]))
  obtain ⟨T2, X2, e2, st2⟩ := castY X1 hx hZ hown (hw _ (List.mem_of_getElem? (i := 9) rfl)) e1 (Ins.self P0) (g := (mkF m 10 #[.val (.ref a1), .val (.ref a1), .unset] [(.ref a1)])) rfl rfl (hb hby d8_10)
  refine own_st st2 ?_
  show own_Fin p e below _ (T2.setTop (mkF m 13 #[.val (.ref a1), .val (.ref a1), .unset] [(.ref a1)]))
  refine own_st (fun t k => XS.astoreN X2.here hx rfl (hb hby d8_13) rfl rfl (l' := #[.val (.ref a1), .val (.ref a1), .val (.ref a1)]) rfl k) ?_
  show own_Fin p e below _ (T2.setTop (mkF m 14 #[.val (.ref a1), .val (.ref a1), .val (.ref a1)] []))
  refine own_st (fun t k => XS.aloadN X2.here hx rfl (hb hby d8_14) rfl rfl k) ?_
  show own_Fin p e below _ (T2.setTop (mkF m 15 #[.val (.ref a1), .val (.ref a1), .val (.ref a1)] [(.ref a1)]))
  obtain ⟨T3, X3, e3, st3⟩ := getF X2 hx hZ hown (host := "") (Or.inl (hw _ (List.mem_of_getElem? (i := 20) rfl))) Via.refl e2 P1 (g := (mkF m 15 #[.val (.ref a1), .val (.ref a1), .val (.ref a1)] [(.ref a1)])) rfl rfl (hb hby d8_15)
  refine own_st st3 ?_
  show own_Fin p e below _ (T3.setTop (mkF m 18 #[.val (.ref a1), .val (.ref a1), .val (.ref a1)] [(.ref a2)]))
  refine own_st (fun t k => XS.aloadN X3.here hx rfl (hb hby d8_18) rfl rfl k) ?_
  show own_Fin p e below _ (T3.setTop (mkF m 19 #[.val (.ref a1), .val (.ref a1), .val (.ref a1)] [(.ref a1), (.ref a2)]))
  obtain ⟨T4, X4, e4, st4⟩ := getF X3 hx hZ hown (host := "") (Or.inl (hw _ (List.mem_of_getElem? (i := 20) rfl))) Via.refl e3 P1 (g := (mkF m 19 #[.val (.ref a1), .val (.ref a1), .val (.ref a1)] [(.ref a1), (.ref a2)])) rfl rfl (hb hby d8_19)
  refine own_st st4 ?_
  show own_Fin p e below _ (T4.setTop (mkF m 22 #[.val (.ref a1), .val (.ref a1), .val (.ref a1)] [(.ref a2), (.ref a2)]))
  refine own_st (fun t k => Jvm.RoadKit.acmp (g := (mkF m 22 #[.val (.ref a1), .val (.ref a1), .val (.ref a1)] [(.ref a2), (.ref a2)])) X4 hx rfl rfl rfl (pc0 := 22) (pc' := 25) (same := true) rfl (hb hby d8_22) rfl (decide_eq_true rfl) (by decide) (by decide) k) ?_
  show own_Fin p e below _ (T4.setTop (mkF m 25 #[.val (.ref a1), .val (.ref a1), .val (.ref a1)] []))
  refine own_st (fun t k => XS.aloadN X4.here hx rfl (hb hby d8_25) rfl rfl k) ?_
  show own_Fin p e below _ (T4.setTop (mkF m 26 #[.val (.ref a1), .val (.ref a1), .val (.ref a1)] [(.ref a1)]))
  obtain ⟨T5, X5, e5, st5⟩ := getF X4 hx hZ hown (host := "") (Or.inl (hw _ (List.mem_of_getElem? (i := 22) rfl))) Via.refl e4 P2 (g := (mkF m 26 #[.val (.ref a1), .val (.ref a1), .val (.ref a1)] [(.ref a1)])) rfl rfl (hb hby d8_26)
  refine own_st st5 ?_
  show own_Fin p e below _ (T5.setTop (mkF m 29 #[.val (.ref a1), .val (.ref a1), .val (.ref a1)] [(.int i3)]))
  refine own_st (fun t k => XS.aloadN X5.here hx rfl (hb hby d8_29) rfl rfl k) ?_
  show own_Fin p e below _ (T5.setTop (mkF m 30 #[.val (.ref a1), .val (.ref a1), .val (.ref a1)] [(.ref a1), (.int i3)]))
  obtain ⟨T6, X6, e6, st6⟩ := getF X5 hx hZ hown (host := "") (Or.inl (hw _ (List.mem_of_getElem? (i := 22) rfl))) Via.refl e5 P2 (g := (mkF m 30 #[.val (.ref a1), .val (.ref a1), .val (.ref a1)] [(.ref a1), (.int i3)])) rfl rfl (hb hby d8_30)
  refine own_st st6 ?_
  show own_Fin p e below _ (T6.setTop (mkF m 33 #[.val (.ref a1), .val (.ref a1), .val (.ref a1)] [(.int i3), (.int i3)]))
  refine own_st (fun t k => XS.icmpNo X6.here hx rfl (hb hby d8_33) rfl (teq rfl).2 k) ?_
  show own_Fin p e below _ (T6.setTop (mkF m 36 #[.val (.ref a1), .val (.ref a1), .val (.ref a1)] []))
  refine own_st (fun t k => XS.aloadN X6.here hx rfl (hb hby d8_36) rfl rfl k) ?_
  show own_Fin p e below _ (T6.setTop (mkF m 37 #[.val (.ref a1), .val (.ref a1), .val (.ref a1)] [(.ref a1)]))
  obtain ⟨T7, X7, e7, st7⟩ := getF X6 hx hZ hown (host := "") (Or.inl (hw _ (List.mem_of_getElem? (i := 24) rfl))) Via.refl e6 P3 (g := (mkF m 37 #[.val (.ref a1), .val (.ref a1), .val (.ref a1)] [(.ref a1)])) rfl rfl (hb hby d8_37)
  refine own_st st7 ?_
  show own_Fin p e below _ (T7.setTop (mkF m 40 #[.val (.ref a1), .val (.ref a1), .val (.ref a1)] [(.long j4)]))
  refine own_st (fun t k => XS.aloadN X7.here hx rfl (hb hby d8_40) rfl rfl k) ?_
  show own_Fin p e below _ (T7.setTop (mkF m 41 #[.val (.ref a1), .val (.ref a1), .val (.ref a1)] [(.ref a1), (.long j4)]))
  obtain ⟨T8, X8, e8, st8⟩ := getF X7 hx hZ hown (host := "") (Or.inl (hw _ (List.mem_of_getElem? (i := 24) rfl))) Via.refl e7 P3 (g := (mkF m 41 #[.val (.ref a1), .val (.ref a1), .val (.ref a1)] [(.ref a1), (.long j4)])) rfl rfl (hb hby d8_41)
  refine own_st st8 ?_
  show own_Fin p e below _ (T8.setTop (mkF m 44 #[.val (.ref a1), .val (.ref a1), .val (.ref a1)] [(.long j4), (.long j4)]))
  refine own_st (fun t k => XS.lcmp X8.here hx rfl (hb hby d8_44) rfl k) ?_
  show own_Fin p e below _ (T8.setTop (mkF m 45 #[.val (.ref a1), .val (.ref a1), .val (.ref a1)] [(.int (lcmpW j4 j4))]))
  refine own_st (fun t k => XS.ifNo X8.here hx rfl (hb hby d8_45) rfl ((if0 _ _).trans (teq ((lw_eq j4 j4).2 rfl)).2) k) ?_
  show own_Fin p e below _ (T8.setTop (mkF m 48 #[.val (.ref a1), .val (.ref a1), .val (.ref a1)] []))
  refine own_st (fun t k => XS.aloadN X8.here hx rfl (hb hby d8_48) rfl rfl k) ?_
  show own_Fin p e below _ (T8.setTop (mkF m 49 #[.val (.ref a1), .val (.ref a1), .val (.ref a1)] [(.ref a1)]))
  obtain ⟨T9, X9, e9, st9⟩ := getF X8 hx hZ hown (host := "") (Or.inl (hw _ (List.mem_of_getElem? (i := 26) rfl))) Via.refl e8 P4 (g := (mkF m 49 #[.val (.ref a1), .val (.ref a1), .val (.ref a1)] [(.ref a1)])) rfl rfl (hb hby d8_49)
  refine own_st st9 ?_
  show own_Fin p e below _ (T9.setTop (mkF m 52 #[.val (.ref a1), .val (.ref a1), .val (.ref a1)] [(.int (1 : Int32))]))
  refine own_st (fun t k => XS.aloadN X9.here hx rfl (hb hby d8_52) rfl rfl k) ?_
  show own_Fin p e below _ (T9.setTop (mkF m 53 #[.val (.ref a1), .val (.ref a1), .val (.ref a1)] [(.ref a1), (.int (1 : Int32))]))
  obtain ⟨T10, X10, e10, st10⟩ := getF X9 hx hZ hown (host := "") (Or.inl (hw _ (List.mem_of_getElem? (i := 26) rfl))) Via.refl e9 P4 (g := (mkF m 53 #[.val (.ref a1), .val (.ref a1), .val (.ref a1)] [(.ref a1), (.int (1 : Int32))])) rfl rfl (hb hby d8_53)
  refine own_st st10 ?_
  show own_Fin p e below _ (T10.setTop (mkF m 56 #[.val (.ref a1), .val (.ref a1), .val (.ref a1)] [(.int (1 : Int32)), (.int (1 : Int32))]))
  refine own_st (fun t k => XS.icmpNo X10.here hx rfl (hb hby d8_56) rfl (by decide) k) ?_
  show own_Fin p e below _ (T10.setTop (mkF m 59 #[.val (.ref a1), .val (.ref a1), .val (.ref a1)] []))
  refine own_st (fun t k => XS.iconst X10.here hx rfl (hb hby d8_59) k) ?_
  show own_Fin p e below _ (T10.setTop (mkF m 60 #[.val (.ref a1), .val (.ref a1), .val (.ref a1)] [(.int (1 : Int32))]))
  refine own_st (fun t k => XS.goto X10.here hx rfl (pc0 := 60) (pc' := 64) rfl (hb hby d8_60) (by decide) (by decide) k) ?_
  show own_Fin p e below _ (T10.setTop (mkF m 64 #[.val (.ref a1), .val (.ref a1), .val (.ref a1)] [(.int (1 : Int32))]))
  obtain ⟨fs, hr, hrun, hended, hW, hsame⟩ := X10.leave (v := some (.int (1 : Int32))) (fun h => by rw [Bd.returns] at h; cases h)
  exact ⟨_, _, retN X10 hx (t := .boolean) Bd.returns (by simp) (hb hby d8_64) hr, hrun, hended, _, _, rfl, ⟨rfl, N0, e10⟩, ⟨_, rfl⟩, hW, hsame.mono (by decide) (by decide)⟩
set_option maxRecDepth 65536 in
set_option maxHeartbeats 40000000 in
theorem rm0_c11 (l : Launch) (Z : State) (a0 : Array Value) (hw : ∀ d ∈ tables_1, d.before a0 Z = true) (ws : List Jvm.Cond) (w_ELECTION : Addr) (w_RELEASE : Addr) (w_HEARTBEAT : Addr) (w_REPLY : Addr) (p0 : Int32) (p1 : Int32) (p2 : Int64) (p3 : Int64) (p4 : Int64) (p5 : Int64) (h0 : Heap) (n0 : Nat) (Z0 : n0 ≤ Array.size h0) (PN : own_Pins Z h0 w_ELECTION w_RELEASE w_HEARTBEAT w_REPLY) (q0 : (p0 &&& (3 : Int32)) = (1 : Int32)) (q1 : ¬ ((p0 &&& (4 : Int32)) = (0 : Int32))) :
    MetFree l x (head1 (Jvm.Cond.code x code maxLocals ret :: ws) room_1) (fun a U => a = #[(.int p0), (.int p1), (.long p2), (.long p3), (.long p4), (.long p5)] ∧ Z.Warmed39 U.vm ∧ U.heap = h0) (fun _ _ _ _ _ => True) (fun _ U o U' => ∃ v L, o = .returned v ∧ own_Q0 n0 (some (.int (1 : Int32))) v U'.heap L ∧ FrameEnd U o U' L room_1.cells room_1.slots) := by
  refine MetFree.of_bodySF (plainFor_of_name pn_com_example_deioces_deioces_DatagramEchoingPinLaw) hisR ?_
  intro p e s m args below meth c s₁ Bd hml0 hP hK
  obtain ⟨rfl, hZ, hh⟩ := hP
  have hx := Bd.exec
  have hby := Bd.bytes
  have hml : c.maxLocals = 14 := hml0
  have hown : s.vm.findClass "com/example/deioces/deioces/DatagramEchoingPinLaw" = some m.cls := findClass_of_methodNamed Bd.named
  have hnm := (name_of_methodNamed Bd.named Bd.method).1
  have X0 : Stand p l e room_1 s m #[(.int p0), (.int p1), (.long p2), (.long p3), (.long p4), (.long p5)] below meth c s₁ [] 0 0 := Stand.of_body Bd
  have e0 : s₁.heap = h0 := by rw [← hh, Bd.state]; rfl
  have N0 := Fr.nil n0
  obtain ⟨S_ELECTION, E_ELECTION, S_RELEASE, E_RELEASE, S_HEARTBEAT, E_HEARTBEAT, S_REPLY, E_REPLY⟩ := PN
  refine (?_ : own_Fin p e below _ _)
  refine own_st (fun t k => castTop (ef_0_IIJJJJ m p0 p1 p2 p3 p4 p5) k) ?_
  show own_Fin p e below _ (s₁.setTop (mkF m 0 #[.val (.int p0), .val (.int p1), .val (.long p2), .second, .val (.long p3), .second, .val (.long p4), .second, .val (.long p5), .second, .unset, .unset, .unset, .unset] []))
  refine own_st (fun t k => XS.lload X0.here hx rfl (hb hby at_0) rfl k) ?_
  show own_Fin p e below _ (s₁.setTop (mkF m 2 #[.val (.int p0), .val (.int p1), .val (.long p2), .second, .val (.long p3), .second, .val (.long p4), .second, .val (.long p5), .second, .unset, .unset, .unset, .unset] [(.long p5)]))
  refine own_st (fun t k => X0.ldc2J hx hown (mvT hZ (hw _ (List.mem_of_getElem? (i := 0) rfl))) rfl (hb hby at_2) k) ?_
  show own_Fin p e below _ (s₁.setTop (mkF m 5 #[.val (.int p0), .val (.int p1), .val (.long p2), .second, .val (.long p3), .second, .val (.long p4), .second, .val (.long p5), .second, .unset, .unset, .unset, .unset] [(.long (9223372036854775807 : Int64)), (.long p5)]))
  refine own_st (fun t k => XS.land X0.here hx rfl (hb hby at_5) rfl k) ?_
  show own_Fin p e below _ (s₁.setTop (mkF m 6 #[.val (.int p0), .val (.int p1), .val (.long p2), .second, .val (.long p3), .second, .val (.long p4), .second, .val (.long p5), .second, .unset, .unset, .unset, .unset] [(.long (p5 &&& (9223372036854775807 : Int64)))]))
  refine own_st (fun t k => XS.lstore X0.here hx rfl (hb hby at_6) rfl (l' := #[.val (.int p0), .val (.int p1), .val (.long p2), .second, .val (.long p3), .second, .val (.long p4), .second, .val (.long p5), .second, .val (.long (p5 &&& (9223372036854775807 : Int64))), .second, .unset, .unset]) rfl k) ?_
  show own_Fin p e below _ (s₁.setTop (mkF m 8 #[.val (.int p0), .val (.int p1), .val (.long p2), .second, .val (.long p3), .second, .val (.long p4), .second, .val (.long p5), .second, .val (.long (p5 &&& (9223372036854775807 : Int64))), .second, .unset, .unset] []))
  refine own_st (fun t k => XS.iloadN X0.here hx rfl (hb hby at_8) rfl k) ?_
  show own_Fin p e below _ (s₁.setTop (mkF m 9 #[.val (.int p0), .val (.int p1), .val (.long p2), .second, .val (.long p3), .second, .val (.long p4), .second, .val (.long p5), .second, .val (.long (p5 &&& (9223372036854775807 : Int64))), .second, .unset, .unset] [(.int p0)]))
  refine own_st (fun t k => XS.iloadN X0.here hx rfl (hb hby at_9) rfl k) ?_
  show own_Fin p e below _ (s₁.setTop (mkF m 10 #[.val (.int p0), .val (.int p1), .val (.long p2), .second, .val (.long p3), .second, .val (.long p4), .second, .val (.long p5), .second, .val (.long (p5 &&& (9223372036854775807 : Int64))), .second, .unset, .unset] [(.int p1), (.int p0)]))
  refine own_st (fun t k => XS.lloadN X0.here hx rfl (hb hby at_10) rfl k) ?_
  show own_Fin p e below _ (s₁.setTop (mkF m 11 #[.val (.int p0), .val (.int p1), .val (.long p2), .second, .val (.long p3), .second, .val (.long p4), .second, .val (.long p5), .second, .val (.long (p5 &&& (9223372036854775807 : Int64))), .second, .unset, .unset] [(.long p2), (.int p1), (.int p0)]))
  obtain ⟨_, _, ⟨T1, L1, k1, n1⟩, -, X1, ⟨Lc1, hQ1, l1, y1, z1⟩, st1⟩ := Jvm.LawKit.callS X0 hx (y := (⟨"com/example/deioces/deioces/DatagramEchoingPinLaw", "makeMessage", "(IIJ)Lcom/example/deioces/deioces/Message;"⟩ : MethodName)) hown (mvT hZ (hw _ (List.mem_of_getElem? (i := 1) rfl))) (mvT hZ (hw _ (List.mem_of_getElem? (i := 2) rfl))) (mvT hZ (hw _ (List.mem_of_getElem? (i := 3) rfl))) (mvT hZ (hw _ (List.mem_of_getElem? (i := 4) rfl))) (by decide) (backOf (W := 0) (rm1_16 l Z a0 hw [] p0 p1 p2 w_REPLY h0 n0 Z0 q0 q1 S_REPLY) hZ (hw _ (List.mem_of_getElem? (i := 4) rfl)) (hw _ (List.mem_of_getElem? (i := 3) rfl)) (by decide) (by decide)) (g := (mkF m 11 #[.val (.int p0), .val (.int p1), .val (.long p2), .second, .val (.long p3), .second, .val (.long p4), .second, .val (.long p5), .second, .val (.long (p5 &&& (9223372036854775807 : Int64))), .second, .unset, .unset] [(.long p2), (.int p1), (.int p0)])) rfl (by rw [hml]; rfl) (argsL := [(.int p0), (.int p1), (.long p2)]) (rest := []) (lenOf pd__IIJ_Lcom_example_deioces_deioces_Message_ rfl) rfl (by show 2 * 0 + _ ≤ _; exact Nat.le_of_eq rfl) (hb hby at_11) (fun _ _ => ⟨rfl, e0, (by decide : 0 + 1 ≤ _), (by decide : 0 + 4 ≤ _)⟩)
  dsimp only [Pt.U, Pt.locs, Pt.cells, Pt.slots] at X1 l1 y1 z1 st1 hQ1
  subst l1 y1 z1
  obtain ⟨b1_0, rfl, N1q, K1q, le_b1_0, G1_0, G1_1, G1_2, G1_3, G1_4⟩ := hQ1
  have sz_b1_0 : h0.size ≤ b1_0 := Nat.le_trans (Keep.refl h0 []).1 le_b1_0
  have g_b1_0 : n0 ≤ b1_0 := Nat.le_trans Z0 sz_b1_0
  have Z2 : n0 ≤ Array.size T1.heap := Nat.le_trans Z0 K1q.1
  have KC2 : Keep h0 T1.heap [] := (Keep.refl h0 []).trans K1q all0
  have N1 := Fr.app N0 N1q
  refine own_st st1 ?_
  show own_Fin p e below _ (T1.setTop (mkF m 14 #[.val (.int p0), .val (.int p1), .val (.long p2), .second, .val (.long p3), .second, .val (.long p4), .second, .val (.long p5), .second, .val (.long (p5 &&& (9223372036854775807 : Int64))), .second, .unset, .unset] [(.ref b1_0)]))
  refine own_st (fun t k => XS.astore X1.here hx rfl (hb hby at_14) rfl rfl (l' := #[.val (.int p0), .val (.int p1), .val (.long p2), .second, .val (.long p3), .second, .val (.long p4), .second, .val (.long p5), .second, .val (.long (p5 &&& (9223372036854775807 : Int64))), .second, .val (.ref b1_0), .unset]) rfl k) ?_
  show own_Fin p e below _ (T1.setTop (mkF m 16 #[.val (.int p0), .val (.int p1), .val (.long p2), .second, .val (.long p3), .second, .val (.long p4), .second, .val (.long p5), .second, .val (.long (p5 &&& (9223372036854775807 : Int64))), .second, .val (.ref b1_0), .unset] []))
  refine own_st (fun t k => XS.aload X1.here hx rfl (hb hby at_16) rfl rfl k) ?_
  show own_Fin p e below _ (T1.setTop (mkF m 18 #[.val (.int p0), .val (.int p1), .val (.long p2), .second, .val (.long p3), .second, .val (.long p4), .second, .val (.long p5), .second, .val (.long (p5 &&& (9223372036854775807 : Int64))), .second, .val (.ref b1_0), .unset] [(.ref b1_0)]))
  refine own_st (fun t k => XS.lload X1.here hx rfl (hb hby at_18) rfl k) ?_
  show own_Fin p e below _ (T1.setTop (mkF m 20 #[.val (.int p0), .val (.int p1), .val (.long p2), .second, .val (.long p3), .second, .val (.long p4), .second, .val (.long p5), .second, .val (.long (p5 &&& (9223372036854775807 : Int64))), .second, .val (.ref b1_0), .unset] [(.long p3), (.ref b1_0)]))
  refine own_st (fun t k => XS.lload X1.here hx rfl (hb hby at_20) rfl k) ?_
  show own_Fin p e below _ (T1.setTop (mkF m 22 #[.val (.int p0), .val (.int p1), .val (.long p2), .second, .val (.long p3), .second, .val (.long p4), .second, .val (.long p5), .second, .val (.long (p5 &&& (9223372036854775807 : Int64))), .second, .val (.ref b1_0), .unset] [(.long p4), (.long p3), (.ref b1_0)]))
  refine own_st (fun t k => XS.lload X1.here hx rfl (hb hby at_22) rfl k) ?_
  show own_Fin p e below _ (T1.setTop (mkF m 24 #[.val (.int p0), .val (.int p1), .val (.long p2), .second, .val (.long p3), .second, .val (.long p4), .second, .val (.long p5), .second, .val (.long (p5 &&& (9223372036854775807 : Int64))), .second, .val (.ref b1_0), .unset] [(.long (p5 &&& (9223372036854775807 : Int64))), (.long p4), (.long p3), (.ref b1_0)]))
  obtain ⟨_, _, ⟨T3, L3, k3, n3⟩, -, X3, ⟨Lc3, hQ3, l3, y3, z3⟩, st3⟩ := Jvm.LawKit.callS X1 hx (y := (⟨"com/example/deioces/deioces/Datagram", "echoing", "(Lcom/example/deioces/deioces/Message;JJJ)Lcom/example/deioces/deioces/Datagram;"⟩ : MethodName)) hown (mvT hZ (hw _ (List.mem_of_getElem? (i := 28) rfl))) (mvT hZ (hw _ (List.mem_of_getElem? (i := 29) rfl))) (mvT hZ (hw _ (List.mem_of_getElem? (i := 30) rfl))) (mvT hZ (hw _ (List.mem_of_getElem? (i := 31) rfl))) (by decide) (backOf (W := 0) (rm5_5 l Z a0 hw [] b1_0 p3 p4 (p5 &&& (9223372036854775807 : Int64)) T1.heap n0 Z2) hZ (hw _ (List.mem_of_getElem? (i := 31) rfl)) (hw _ (List.mem_of_getElem? (i := 30) rfl)) (by decide) (by decide)) (g := (mkF m 24 #[.val (.int p0), .val (.int p1), .val (.long p2), .second, .val (.long p3), .second, .val (.long p4), .second, .val (.long p5), .second, .val (.long (p5 &&& (9223372036854775807 : Int64))), .second, .val (.ref b1_0), .unset] [(.long (p5 &&& (9223372036854775807 : Int64))), (.long p4), (.long p3), (.ref b1_0)])) rfl (by rw [hml]; rfl) (argsL := [(.ref b1_0), (.long p3), (.long p4), (.long (p5 &&& (9223372036854775807 : Int64)))]) (rest := []) (lenOf pd__Lcom_example_deioces_deioces_Message_JJJ_Lcom_example_deioces_deioces_Datagram_ rfl) rfl (by show 2 * 0 + _ ≤ _; exact Nat.le_of_eq rfl) (hb hby at_24) (fun _ _ => ⟨rfl, rfl, (by decide : 1 + 1 ≤ _), (by decide : 4 + 5 ≤ _)⟩)
  dsimp only [Pt.U, Pt.locs, Pt.cells, Pt.slots] at X3 l3 y3 z3 st3 hQ3
  subst l3 y3 z3
  obtain ⟨b3_0, rfl, N3q, K3q, le_b3_0, G3_0, G3_1, G3_2, G3_3, G3_4, G3_5⟩ := hQ3
  have sz_b3_0 : h0.size ≤ b3_0 := Nat.le_trans KC2.1 le_b3_0
  have g_b3_0 : n0 ≤ b3_0 := Nat.le_trans Z0 sz_b3_0
  have Z4 : n0 ≤ Array.size T3.heap := Nat.le_trans Z2 K3q.1
  have KC4 : Keep h0 T3.heap [] := KC2.trans K3q all0
  have N3 := Fr.app N1 N3q
  refine own_st st3 ?_
  show own_Fin p e below _ (T3.setTop (mkF m 27 #[.val (.int p0), .val (.int p1), .val (.long p2), .second, .val (.long p3), .second, .val (.long p4), .second, .val (.long p5), .second, .val (.long (p5 &&& (9223372036854775807 : Int64))), .second, .val (.ref b1_0), .unset] [(.ref b3_0)]))
  refine own_st (fun t k => XS.astore X3.here hx rfl (hb hby at_27) rfl rfl (l' := #[.val (.int p0), .val (.int p1), .val (.long p2), .second, .val (.long p3), .second, .val (.long p4), .second, .val (.long p5), .second, .val (.long (p5 &&& (9223372036854775807 : Int64))), .second, .val (.ref b1_0), .val (.ref b3_0)]) rfl k) ?_
  show own_Fin p e below _ (T3.setTop (mkF m 29 #[.val (.int p0), .val (.int p1), .val (.long p2), .second, .val (.long p3), .second, .val (.long p4), .second, .val (.long p5), .second, .val (.long (p5 &&& (9223372036854775807 : Int64))), .second, .val (.ref b1_0), .val (.ref b3_0)] []))
  refine own_st (fun t k => XS.aload X3.here hx rfl (hb hby at_29) rfl rfl k) ?_
  show own_Fin p e below _ (T3.setTop (mkF m 31 #[.val (.int p0), .val (.int p1), .val (.long p2), .second, .val (.long p3), .second, .val (.long p4), .second, .val (.long p5), .second, .val (.long (p5 &&& (9223372036854775807 : Int64))), .second, .val (.ref b1_0), .val (.ref b3_0)] [(.ref b3_0)]))
  obtain ⟨cq5, kq5, q5a, q5b, q5c⟩ := isOf hZ rfl G3_0
  obtain ⟨_, _, ⟨T5, L5, k5, n5⟩, -, X5, ⟨Lc5, hQ5, l5, y5, z5⟩, st5⟩ := X3.virtualBack hx (y := (⟨"com/example/deioces/deioces/Datagram", "message", "()Lcom/example/deioces/deioces/Message;"⟩ : MethodName)) (z := (⟨"com/example/deioces/deioces/Datagram", "message", "()Lcom/example/deioces/deioces/Message;"⟩ : MethodName)) hown (mvT hZ (hw _ (List.mem_of_getElem? (i := 48) rfl))) (mvT hZ (hw _ (List.mem_of_getElem? (i := 49) rfl))) (notFace_of_selects (args := #[]) (mvT hZ (hw _ (List.mem_of_getElem? (i := 51) rfl)))) (mvT hZ (hw _ (List.mem_of_getElem? (i := 51) rfl))) (mvT hZ (hw _ (List.mem_of_getElem? (i := 50) rfl))) (by decide) (backOf (W := 0) (rm7_6 l Z a0 hw [] b3_0 b1_0 T3.heap n0 Z4 G3_1) hZ (hw _ (List.mem_of_getElem? (i := 52) rfl)) (hw _ (List.mem_of_getElem? (i := 30) rfl)) (by decide) (by decide)) q5a q5c (g := (mkF m 31 #[.val (.int p0), .val (.int p1), .val (.long p2), .second, .val (.long p3), .second, .val (.long p4), .second, .val (.long p5), .second, .val (.long (p5 &&& (9223372036854775807 : Int64))), .second, .val (.ref b1_0), .val (.ref b3_0)] [(.ref b3_0)])) rfl (by rw [hml]; rfl) (Steps.refl _) (argsL := []) (rest := []) (lenOf pd___Lcom_example_deioces_deioces_Message_ rfl) rfl (by show 2 * 0 + _ ≤ _; exact Nat.le_of_eq rfl) (hb hby at_31) (fun _ _ => ⟨rfl, rfl, (by decide : 2 + 0 ≤ _), (by decide : 9 + 0 ≤ _)⟩)
  dsimp only [Pt.U, Pt.locs, Pt.cells, Pt.slots] at X5 l5 y5 z5 st5 hQ5
  subst l5 y5 z5
  obtain ⟨rfl, N5q, e5⟩ := hQ5
  have N5 := Fr.app N3 N5q
  refine own_tr st5 ?_
  show own_Fin p e below _ (T5.setTop (mkF m 34 #[.val (.int p0), .val (.int p1), .val (.long p2), .second, .val (.long p3), .second, .val (.long p4), .second, .val (.long p5), .second, .val (.long (p5 &&& (9223372036854775807 : Int64))), .second, .val (.ref b1_0), .val (.ref b3_0)] [(.ref b1_0)]))
  refine own_st (fun t k => XS.aload X5.here hx rfl (hb hby at_34) rfl rfl k) ?_
  show own_Fin p e below _ (T5.setTop (mkF m 36 #[.val (.int p0), .val (.int p1), .val (.long p2), .second, .val (.long p3), .second, .val (.long p4), .second, .val (.long p5), .second, .val (.long (p5 &&& (9223372036854775807 : Int64))), .second, .val (.ref b1_0), .val (.ref b3_0)] [(.ref b1_0), (.ref b1_0)]))
  have F7 : Exa Z T3.heap b1_0 "com/example/deioces/deioces/Message" := (G1_0.keep K3q)
  have F8 : Fld Z T3.heap b1_0 "com/example/deioces/deioces/Message" "kind" "Lcom/example/deioces/deioces/Message$Kind;" (.ref w_REPLY) := (G1_1.keep K3q nin0)
  have F9 : Fld Z T3.heap b1_0 "com/example/deioces/deioces/Message" "sender" "I" (.int p1) := (G1_2.keep K3q nin0)
  have F10 : Fld Z T3.heap b1_0 "com/example/deioces/deioces/Message" "stamp" "J" (.long p2) := (G1_3.keep K3q nin0)
  have F11 : Fld Z T3.heap b1_0 "com/example/deioces/deioces/Message" "supportive" "Z" (.int (1 : Int32)) := (G1_4.keep K3q nin0)
  obtain ⟨cq6, kq6, q6a, q6b, q6c⟩ := isOf hZ e5 F7
  obtain ⟨_, _, ⟨T6, L6, k6, n6⟩, -, X6, ⟨Lc6, hQ6, l6, y6, z6⟩, st6⟩ := X5.virtualBack hx (y := (⟨"com/example/deioces/deioces/Message", "equals", "(Ljava/lang/Object;)Z"⟩ : MethodName)) (z := (⟨"com/example/deioces/deioces/Message", "equals", "(Ljava/lang/Object;)Z"⟩ : MethodName)) hown (mvT hZ (hw _ (List.mem_of_getElem? (i := 53) rfl))) (mvT hZ (hw _ (List.mem_of_getElem? (i := 54) rfl))) (notFace_of_selects (args := #[]) (mvT hZ (hw _ (List.mem_of_getElem? (i := 56) rfl)))) (mvT hZ (hw _ (List.mem_of_getElem? (i := 56) rfl))) (mvT hZ (hw _ (List.mem_of_getElem? (i := 55) rfl))) (by decide) (backOf (W := 0) (rm8_17 l Z a0 hw [] b1_0 w_REPLY p1 p2 T3.heap n0 Z4 F7 F8 F9 F10 F11) hZ (hw _ (List.mem_of_getElem? (i := 57) rfl)) (hw _ (List.mem_of_getElem? (i := 7) rfl)) (by decide) (by decide)) q6a q6c (g := (mkF m 36 #[.val (.int p0), .val (.int p1), .val (.long p2), .second, .val (.long p3), .second, .val (.long p4), .second, .val (.long p5), .second, .val (.long (p5 &&& (9223372036854775807 : Int64))), .second, .val (.ref b1_0), .val (.ref b3_0)] [(.ref b1_0), (.ref b1_0)])) rfl (by rw [hml]; rfl) (Steps.refl _) (argsL := [(.ref b1_0)]) (rest := []) (lenOf pd__Ljava_lang_Object__Z rfl) rfl (by show 2 * 0 + _ ≤ _; exact Nat.le_of_eq rfl) (hb hby at_36) (fun _ _ => ⟨rfl, e5, (by decide : 2 + 0 ≤ _), (by decide : 9 + 0 ≤ _)⟩)
  dsimp only [Pt.U, Pt.locs, Pt.cells, Pt.slots] at X6 l6 y6 z6 st6 hQ6
  subst l6 y6 z6
  obtain ⟨rfl, N6q, e6⟩ := hQ6
  have N6 := Fr.app N5 N6q
  refine own_tr st6 ?_
  show own_Fin p e below _ (T6.setTop (mkF m 39 #[.val (.int p0), .val (.int p1), .val (.long p2), .second, .val (.long p3), .second, .val (.long p4), .second, .val (.long p5), .second, .val (.long (p5 &&& (9223372036854775807 : Int64))), .second, .val (.ref b1_0), .val (.ref b3_0)] [(.int (1 : Int32))]))
  refine own_st (fun t k => XS.ifNo X6.here hx rfl (hb hby at_39) rfl (by decide) k) ?_
  show own_Fin p e below _ (T6.setTop (mkF m 42 #[.val (.int p0), .val (.int p1), .val (.long p2), .second, .val (.long p3), .second, .val (.long p4), .second, .val (.long p5), .second, .val (.long (p5 &&& (9223372036854775807 : Int64))), .second, .val (.ref b1_0), .val (.ref b3_0)] []))
  refine own_st (fun t k => XS.aload X6.here hx rfl (hb hby at_42) rfl rfl k) ?_
  show own_Fin p e below _ (T6.setTop (mkF m 44 #[.val (.int p0), .val (.int p1), .val (.long p2), .second, .val (.long p3), .second, .val (.long p4), .second, .val (.long p5), .second, .val (.long (p5 &&& (9223372036854775807 : Int64))), .second, .val (.ref b1_0), .val (.ref b3_0)] [(.ref b3_0)]))
  obtain ⟨cq12, kq12, q12a, q12b, q12c⟩ := isOf hZ e6 G3_0
  obtain ⟨_, _, ⟨T12, L12, k12, n12⟩, -, X12, ⟨Lc12, hQ12, l12, y12, z12⟩, st12⟩ := X6.virtualBack hx (y := (⟨"com/example/deioces/deioces/Datagram", "sent", "()J"⟩ : MethodName)) (z := (⟨"com/example/deioces/deioces/Datagram", "sent", "()J"⟩ : MethodName)) hown (mvT hZ (hw _ (List.mem_of_getElem? (i := 59) rfl))) (mvT hZ (hw _ (List.mem_of_getElem? (i := 60) rfl))) (notFace_of_selects (args := #[]) (mvT hZ (hw _ (List.mem_of_getElem? (i := 62) rfl)))) (mvT hZ (hw _ (List.mem_of_getElem? (i := 62) rfl))) (mvT hZ (hw _ (List.mem_of_getElem? (i := 61) rfl))) (by decide) (backOf (W := 0) (rm9_8 l Z a0 hw [] b3_0 p3 T3.heap n0 Z4 G3_2) hZ (hw _ (List.mem_of_getElem? (i := 63) rfl)) (hw _ (List.mem_of_getElem? (i := 30) rfl)) (by decide) (by decide)) q12a q12c (g := (mkF m 44 #[.val (.int p0), .val (.int p1), .val (.long p2), .second, .val (.long p3), .second, .val (.long p4), .second, .val (.long p5), .second, .val (.long (p5 &&& (9223372036854775807 : Int64))), .second, .val (.ref b1_0), .val (.ref b3_0)] [(.ref b3_0)])) rfl (by rw [hml]; rfl) (Steps.refl _) (argsL := []) (rest := []) (lenOf pd___J rfl) rfl (by show 2 * 0 + _ ≤ _; exact Nat.le_of_eq rfl) (hb hby at_44) (fun _ _ => ⟨rfl, e6, (by decide : 2 + 0 ≤ _), (by decide : 9 + 0 ≤ _)⟩)
  dsimp only [Pt.U, Pt.locs, Pt.cells, Pt.slots] at X12 l12 y12 z12 st12 hQ12
  subst l12 y12 z12
  obtain ⟨rfl, N12q, e12⟩ := hQ12
  have N12 := Fr.app N6 N12q
  refine own_tr st12 ?_
  show own_Fin p e below _ (T12.setTop (mkF m 47 #[.val (.int p0), .val (.int p1), .val (.long p2), .second, .val (.long p3), .second, .val (.long p4), .second, .val (.long p5), .second, .val (.long (p5 &&& (9223372036854775807 : Int64))), .second, .val (.ref b1_0), .val (.ref b3_0)] [(.long p3)]))
  refine own_st (fun t k => XS.lload X12.here hx rfl (hb hby at_47) rfl k) ?_
  show own_Fin p e below _ (T12.setTop (mkF m 49 #[.val (.int p0), .val (.int p1), .val (.long p2), .second, .val (.long p3), .second, .val (.long p4), .second, .val (.long p5), .second, .val (.long (p5 &&& (9223372036854775807 : Int64))), .second, .val (.ref b1_0), .val (.ref b3_0)] [(.long p3), (.long p3)]))
  refine own_st (fun t k => XS.lcmp X12.here hx rfl (hb hby at_49) rfl k) ?_
  show own_Fin p e below _ (T12.setTop (mkF m 50 #[.val (.int p0), .val (.int p1), .val (.long p2), .second, .val (.long p3), .second, .val (.long p4), .second, .val (.long p5), .second, .val (.long (p5 &&& (9223372036854775807 : Int64))), .second, .val (.ref b1_0), .val (.ref b3_0)] [(.int (lcmpW p3 p3))]))
  refine own_st (fun t k => XS.ifNo X12.here hx rfl (hb hby at_50) rfl ((if0 _ _).trans (teq ((lw_eq p3 p3).2 rfl)).2) k) ?_
  show own_Fin p e below _ (T12.setTop (mkF m 53 #[.val (.int p0), .val (.int p1), .val (.long p2), .second, .val (.long p3), .second, .val (.long p4), .second, .val (.long p5), .second, .val (.long (p5 &&& (9223372036854775807 : Int64))), .second, .val (.ref b1_0), .val (.ref b3_0)] []))
  refine own_st (fun t k => XS.aload X12.here hx rfl (hb hby at_53) rfl rfl k) ?_
  show own_Fin p e below _ (T12.setTop (mkF m 55 #[.val (.int p0), .val (.int p1), .val (.long p2), .second, .val (.long p3), .second, .val (.long p4), .second, .val (.long p5), .second, .val (.long (p5 &&& (9223372036854775807 : Int64))), .second, .val (.ref b1_0), .val (.ref b3_0)] [(.ref b3_0)]))
  obtain ⟨cq13, kq13, q13a, q13b, q13c⟩ := isOf hZ e12 G3_0
  obtain ⟨_, _, ⟨T13, L13, k13, n13⟩, -, X13, ⟨Lc13, hQ13, l13, y13, z13⟩, st13⟩ := X12.virtualBack hx (y := (⟨"com/example/deioces/deioces/Datagram", "echoes", "()Z"⟩ : MethodName)) (z := (⟨"com/example/deioces/deioces/Datagram", "echoes", "()Z"⟩ : MethodName)) hown (mvT hZ (hw _ (List.mem_of_getElem? (i := 64) rfl))) (mvT hZ (hw _ (List.mem_of_getElem? (i := 65) rfl))) (notFace_of_selects (args := #[]) (mvT hZ (hw _ (List.mem_of_getElem? (i := 67) rfl)))) (mvT hZ (hw _ (List.mem_of_getElem? (i := 67) rfl))) (mvT hZ (hw _ (List.mem_of_getElem? (i := 66) rfl))) (by decide) (backOf (W := 0) (rm10_9 l Z a0 hw [] b3_0 T3.heap n0 Z4 G3_3) hZ (hw _ (List.mem_of_getElem? (i := 68) rfl)) (hw _ (List.mem_of_getElem? (i := 30) rfl)) (by decide) (by decide)) q13a q13c (g := (mkF m 55 #[.val (.int p0), .val (.int p1), .val (.long p2), .second, .val (.long p3), .second, .val (.long p4), .second, .val (.long p5), .second, .val (.long (p5 &&& (9223372036854775807 : Int64))), .second, .val (.ref b1_0), .val (.ref b3_0)] [(.ref b3_0)])) rfl (by rw [hml]; rfl) (Steps.refl _) (argsL := []) (rest := []) (lenOf pd___Z rfl) rfl (by show 2 * 0 + _ ≤ _; exact Nat.le_of_eq rfl) (hb hby at_55) (fun _ _ => ⟨rfl, e12, (by decide : 2 + 0 ≤ _), (by decide : 9 + 0 ≤ _)⟩)
  dsimp only [Pt.U, Pt.locs, Pt.cells, Pt.slots] at X13 l13 y13 z13 st13 hQ13
  subst l13 y13 z13
  obtain ⟨rfl, N13q, e13⟩ := hQ13
  have N13 := Fr.app N12 N13q
  refine own_tr st13 ?_
  show own_Fin p e below _ (T13.setTop (mkF m 58 #[.val (.int p0), .val (.int p1), .val (.long p2), .second, .val (.long p3), .second, .val (.long p4), .second, .val (.long p5), .second, .val (.long (p5 &&& (9223372036854775807 : Int64))), .second, .val (.ref b1_0), .val (.ref b3_0)] [(.int (1 : Int32))]))
  refine own_st (fun t k => XS.ifNo X13.here hx rfl (hb hby at_58) rfl (by decide) k) ?_
  show own_Fin p e below _ (T13.setTop (mkF m 61 #[.val (.int p0), .val (.int p1), .val (.long p2), .second, .val (.long p3), .second, .val (.long p4), .second, .val (.long p5), .second, .val (.long (p5 &&& (9223372036854775807 : Int64))), .second, .val (.ref b1_0), .val (.ref b3_0)] []))
  refine own_st (fun t k => XS.aload X13.here hx rfl (hb hby at_61) rfl rfl k) ?_
  show own_Fin p e below _ (T13.setTop (mkF m 63 #[.val (.int p0), .val (.int p1), .val (.long p2), .second, .val (.long p3), .second, .val (.long p4), .second, .val (.long p5), .second, .val (.long (p5 &&& (9223372036854775807 : Int64))), .second, .val (.ref b1_0), .val (.ref b3_0)] [(.ref b3_0)]))
  obtain ⟨cq14, kq14, q14a, q14b, q14c⟩ := isOf hZ e13 G3_0
  obtain ⟨_, _, ⟨T14, L14, k14, n14⟩, -, X14, ⟨Lc14, hQ14, l14, y14, z14⟩, st14⟩ := X13.virtualBack hx (y := (⟨"com/example/deioces/deioces/Datagram", "echoed", "()J"⟩ : MethodName)) (z := (⟨"com/example/deioces/deioces/Datagram", "echoed", "()J"⟩ : MethodName)) hown (mvT hZ (hw _ (List.mem_of_getElem? (i := 69) rfl))) (mvT hZ (hw _ (List.mem_of_getElem? (i := 70) rfl))) (notFace_of_selects (args := #[]) (mvT hZ (hw _ (List.mem_of_getElem? (i := 72) rfl)))) (mvT hZ (hw _ (List.mem_of_getElem? (i := 72) rfl))) (mvT hZ (hw _ (List.mem_of_getElem? (i := 71) rfl))) (by decide) (backOf (W := 0) (rm11_10 l Z a0 hw [] b3_0 p4 T3.heap n0 Z4 G3_4) hZ (hw _ (List.mem_of_getElem? (i := 73) rfl)) (hw _ (List.mem_of_getElem? (i := 30) rfl)) (by decide) (by decide)) q14a q14c (g := (mkF m 63 #[.val (.int p0), .val (.int p1), .val (.long p2), .second, .val (.long p3), .second, .val (.long p4), .second, .val (.long p5), .second, .val (.long (p5 &&& (9223372036854775807 : Int64))), .second, .val (.ref b1_0), .val (.ref b3_0)] [(.ref b3_0)])) rfl (by rw [hml]; rfl) (Steps.refl _) (argsL := []) (rest := []) (lenOf pd___J rfl) rfl (by show 2 * 0 + _ ≤ _; exact Nat.le_of_eq rfl) (hb hby at_63) (fun _ _ => ⟨rfl, e13, (by decide : 2 + 0 ≤ _), (by decide : 9 + 0 ≤ _)⟩)
  dsimp only [Pt.U, Pt.locs, Pt.cells, Pt.slots] at X14 l14 y14 z14 st14 hQ14
  subst l14 y14 z14
  obtain ⟨rfl, N14q, e14⟩ := hQ14
  have N14 := Fr.app N13 N14q
  refine own_tr st14 ?_
  show own_Fin p e below _ (T14.setTop (mkF m 66 #[.val (.int p0), .val (.int p1), .val (.long p2), .second, .val (.long p3), .second, .val (.long p4), .second, .val (.long p5), .second, .val (.long (p5 &&& (9223372036854775807 : Int64))), .second, .val (.ref b1_0), .val (.ref b3_0)] [(.long p4)]))
  refine own_st (fun t k => XS.lload X14.here hx rfl (hb hby at_66) rfl k) ?_
  show own_Fin p e below _ (T14.setTop (mkF m 68 #[.val (.int p0), .val (.int p1), .val (.long p2), .second, .val (.long p3), .second, .val (.long p4), .second, .val (.long p5), .second, .val (.long (p5 &&& (9223372036854775807 : Int64))), .second, .val (.ref b1_0), .val (.ref b3_0)] [(.long p4), (.long p4)]))
  refine own_st (fun t k => XS.lcmp X14.here hx rfl (hb hby at_68) rfl k) ?_
  show own_Fin p e below _ (T14.setTop (mkF m 69 #[.val (.int p0), .val (.int p1), .val (.long p2), .second, .val (.long p3), .second, .val (.long p4), .second, .val (.long p5), .second, .val (.long (p5 &&& (9223372036854775807 : Int64))), .second, .val (.ref b1_0), .val (.ref b3_0)] [(.int (lcmpW p4 p4))]))
  refine own_st (fun t k => XS.ifNo X14.here hx rfl (hb hby at_69) rfl ((if0 _ _).trans (teq ((lw_eq p4 p4).2 rfl)).2) k) ?_
  show own_Fin p e below _ (T14.setTop (mkF m 72 #[.val (.int p0), .val (.int p1), .val (.long p2), .second, .val (.long p3), .second, .val (.long p4), .second, .val (.long p5), .second, .val (.long (p5 &&& (9223372036854775807 : Int64))), .second, .val (.ref b1_0), .val (.ref b3_0)] []))
  refine own_st (fun t k => XS.aload X14.here hx rfl (hb hby at_72) rfl rfl k) ?_
  show own_Fin p e below _ (T14.setTop (mkF m 74 #[.val (.int p0), .val (.int p1), .val (.long p2), .second, .val (.long p3), .second, .val (.long p4), .second, .val (.long p5), .second, .val (.long (p5 &&& (9223372036854775807 : Int64))), .second, .val (.ref b1_0), .val (.ref b3_0)] [(.ref b3_0)]))
  obtain ⟨cq15, kq15, q15a, q15b, q15c⟩ := isOf hZ e14 G3_0
  obtain ⟨_, _, ⟨T15, L15, k15, n15⟩, -, X15, ⟨Lc15, hQ15, l15, y15, z15⟩, st15⟩ := X14.virtualBack hx (y := (⟨"com/example/deioces/deioces/Datagram", "held", "()J"⟩ : MethodName)) (z := (⟨"com/example/deioces/deioces/Datagram", "held", "()J"⟩ : MethodName)) hown (mvT hZ (hw _ (List.mem_of_getElem? (i := 74) rfl))) (mvT hZ (hw _ (List.mem_of_getElem? (i := 75) rfl))) (notFace_of_selects (args := #[]) (mvT hZ (hw _ (List.mem_of_getElem? (i := 77) rfl)))) (mvT hZ (hw _ (List.mem_of_getElem? (i := 77) rfl))) (mvT hZ (hw _ (List.mem_of_getElem? (i := 76) rfl))) (by decide) (backOf (W := 0) (rm12_11 l Z a0 hw [] b3_0 (p5 &&& (9223372036854775807 : Int64)) T3.heap n0 Z4 G3_5) hZ (hw _ (List.mem_of_getElem? (i := 78) rfl)) (hw _ (List.mem_of_getElem? (i := 30) rfl)) (by decide) (by decide)) q15a q15c (g := (mkF m 74 #[.val (.int p0), .val (.int p1), .val (.long p2), .second, .val (.long p3), .second, .val (.long p4), .second, .val (.long p5), .second, .val (.long (p5 &&& (9223372036854775807 : Int64))), .second, .val (.ref b1_0), .val (.ref b3_0)] [(.ref b3_0)])) rfl (by rw [hml]; rfl) (Steps.refl _) (argsL := []) (rest := []) (lenOf pd___J rfl) rfl (by show 2 * 0 + _ ≤ _; exact Nat.le_of_eq rfl) (hb hby at_74) (fun _ _ => ⟨rfl, e14, (by decide : 2 + 0 ≤ _), (by decide : 9 + 0 ≤ _)⟩)
  dsimp only [Pt.U, Pt.locs, Pt.cells, Pt.slots] at X15 l15 y15 z15 st15 hQ15
  subst l15 y15 z15
  obtain ⟨rfl, N15q, e15⟩ := hQ15
  have N15 := Fr.app N14 N15q
  refine own_tr st15 ?_
  show own_Fin p e below _ (T15.setTop (mkF m 77 #[.val (.int p0), .val (.int p1), .val (.long p2), .second, .val (.long p3), .second, .val (.long p4), .second, .val (.long p5), .second, .val (.long (p5 &&& (9223372036854775807 : Int64))), .second, .val (.ref b1_0), .val (.ref b3_0)] [(.long (p5 &&& (9223372036854775807 : Int64)))]))
  refine own_st (fun t k => XS.lload X15.here hx rfl (hb hby at_77) rfl k) ?_
  show own_Fin p e below _ (T15.setTop (mkF m 79 #[.val (.int p0), .val (.int p1), .val (.long p2), .second, .val (.long p3), .second, .val (.long p4), .second, .val (.long p5), .second, .val (.long (p5 &&& (9223372036854775807 : Int64))), .second, .val (.ref b1_0), .val (.ref b3_0)] [(.long (p5 &&& (9223372036854775807 : Int64))), (.long (p5 &&& (9223372036854775807 : Int64)))]))
  refine own_st (fun t k => XS.lcmp X15.here hx rfl (hb hby at_79) rfl k) ?_
  show own_Fin p e below _ (T15.setTop (mkF m 80 #[.val (.int p0), .val (.int p1), .val (.long p2), .second, .val (.long p3), .second, .val (.long p4), .second, .val (.long p5), .second, .val (.long (p5 &&& (9223372036854775807 : Int64))), .second, .val (.ref b1_0), .val (.ref b3_0)] [(.int (lcmpW (p5 &&& (9223372036854775807 : Int64)) (p5 &&& (9223372036854775807 : Int64))))]))
  refine own_st (fun t k => XS.ifNo X15.here hx rfl (hb hby at_80) rfl ((if0 _ _).trans (teq ((lw_eq (p5 &&& (9223372036854775807 : Int64)) (p5 &&& (9223372036854775807 : Int64))).2 rfl)).2) k) ?_
  show own_Fin p e below _ (T15.setTop (mkF m 83 #[.val (.int p0), .val (.int p1), .val (.long p2), .second, .val (.long p3), .second, .val (.long p4), .second, .val (.long p5), .second, .val (.long (p5 &&& (9223372036854775807 : Int64))), .second, .val (.ref b1_0), .val (.ref b3_0)] []))
  refine own_st (fun t k => XS.iconst X15.here hx rfl (hb hby at_83) k) ?_
  show own_Fin p e below _ (T15.setTop (mkF m 84 #[.val (.int p0), .val (.int p1), .val (.long p2), .second, .val (.long p3), .second, .val (.long p4), .second, .val (.long p5), .second, .val (.long (p5 &&& (9223372036854775807 : Int64))), .second, .val (.ref b1_0), .val (.ref b3_0)] [(.int (1 : Int32))]))
  refine own_st (fun t k => XS.goto X15.here hx rfl (pc0 := 84) (pc' := 88) rfl (hb hby at_84) (by decide) (by decide) k) ?_
  show own_Fin p e below _ (T15.setTop (mkF m 88 #[.val (.int p0), .val (.int p1), .val (.long p2), .second, .val (.long p3), .second, .val (.long p4), .second, .val (.long p5), .second, .val (.long (p5 &&& (9223372036854775807 : Int64))), .second, .val (.ref b1_0), .val (.ref b3_0)] [(.int (1 : Int32))]))
  obtain ⟨fs, hr, hrun, hended, hW, hsame⟩ := X15.leave (v := some (.int (1 : Int32))) (fun h => by rw [Bd.returns] at h; cases h)
  exact ⟨_, _, retN X15 hx (t := .boolean) Bd.returns (by simp) (hb hby at_88) hr, hrun, hended, _, _, rfl, ⟨rfl, N15⟩, ⟨_, rfl⟩, hW, hsame.mono (by decide) (by decide)⟩
theorem d1_39 : decode method_2_code 39 = .ok (.iload 4, 2) := by decide +kernel
theorem d1_41 : decode method_2_code 41 = .ok (.iconst 2, 1) := by decide +kernel
theorem d1_42 : decode method_2_code 42 = .ok (.if_icmp .ne 9, 3) := by decide +kernel
theorem d1_45 : decode method_2_code 45 = .ok (.iload_n 1, 1) := by decide +kernel
theorem d1_46 : decode method_2_code 46 = .ok (.lload_n 2, 1) := by decide +kernel
theorem d1_47 : decode method_2_code 47 = .ok (.invokestatic 17, 3) := by decide +kernel
theorem d13_0 : decode prog_31_method_4_code 0 = .ok (.new 8, 3) := by decide +kernel
theorem d13_3 : decode prog_31_method_4_code 3 = .ok (.dup, 1) := by decide +kernel
theorem d13_4 : decode prog_31_method_4_code 4 = .ok (.getstatic 36, 3) := by decide +kernel
theorem d13_7 : decode prog_31_method_4_code 7 = .ok (.iload_n 0, 1) := by decide +kernel
theorem d13_8 : decode prog_31_method_4_code 8 = .ok (.lload_n 1, 1) := by decide +kernel
theorem d13_9 : decode prog_31_method_4_code 9 = .ok (.iconst 0, 1) := by decide +kernel
theorem d13_10 : decode prog_31_method_4_code 10 = .ok (.invokespecial 30, 3) := by decide +kernel
theorem d13_13 : decode prog_31_method_4_code 13 = .ok (.areturn, 1) := by decide +kernel
theorem ef_13_IJ (m : MethodId) (x0 : Int32) (x1 : Int64) : entryFrame m #[(.int x0), (.long x1)] 3 = mkF m 0 #[.val (.int x0), .val (.long x1), .second] [] := by first | (simp [entryFrame, mkF, argsToLocals, Value.category]; done) | rfl
def Q13_18 (Z : State) (i1 : Int32) (j2 : Int64) (a3 : Addr) (h0 : Heap) (n0 : Nat) (v : Option Value) (h : Heap) (L : List Loc) : Prop := ∃ b1 : Addr, v = some (.ref b1) ∧ Fr n0 L ∧ Keep h0 h [] ∧ Array.size h0 ≤ b1 ∧ Exa Z h b1 "com/example/deioces/deioces/Message" ∧ Fld Z h b1 "com/example/deioces/deioces/Message" "kind" "Lcom/example/deioces/deioces/Message$Kind;" (.ref a3) ∧ Fld Z h b1 "com/example/deioces/deioces/Message" "sender" "I" (.int i1) ∧ Fld Z h b1 "com/example/deioces/deioces/Message" "stamp" "J" (.long j2) ∧ Fld Z h b1 "com/example/deioces/deioces/Message" "supportive" "Z" (.int (0 : Int32))
set_option maxRecDepth 65536 in
set_option maxHeartbeats 40000000 in
theorem rm13_18 (l : Launch) (Z : State) (a0 : Array Value) (hw : ∀ d ∈ tables_1, d.before a0 Z = true) (ws : List Jvm.Cond) (i1 : Int32) (j2 : Int64) (a3 : Addr) (h0 : Heap) (n0 : Nat) (Z0 : n0 ≤ Array.size h0) (P0 : Sta Z h0 "com/example/deioces/deioces/Message$Kind" "RELEASE" "Lcom/example/deioces/deioces/Message$Kind;" (.ref a3)) :
    MetFree l (⟨"com/example/deioces/deioces/Message", "release", "(IJ)Lcom/example/deioces/deioces/Message;"⟩ : MethodName) (head1 (Jvm.Cond.code (⟨"com/example/deioces/deioces/Message", "release", "(IJ)Lcom/example/deioces/deioces/Message;"⟩ : MethodName) prog_31_method_4_code 3 (some (.object "com/example/deioces/deioces/Message")) :: ws) ({ frames := 2, cells := 1, slots := 4, locals := 30 } : Room)) (fun a U => a = #[(.int i1), (.long j2)] ∧ Z.Warmed39 U.vm ∧ U.heap = h0) (fun _ _ _ _ _ => True) (fun _ U o U' => ∃ v L, o = .returned v ∧ Q13_18 Z i1 j2 a3 h0 n0 v U'.heap L ∧ FrameEnd U o U' L ({ frames := 2, cells := 1, slots := 4, locals := 30 } : Room).cells ({ frames := 2, cells := 1, slots := 4, locals := 30 } : Room).slots) := by
  refine MetFree.of_bodySF (plainFor_of_name pn_com_example_deioces_deioces_Message) hisR ?_
  intro p e s m args below meth c s₁ Bd hml0 hP hK
  obtain ⟨rfl, hZ, hh⟩ := hP
  have hx := Bd.exec
  have hby := Bd.bytes
  have hml : c.maxLocals = 3 := hml0
  have hown : s.vm.findClass "com/example/deioces/deioces/Message" = some m.cls := findClass_of_methodNamed Bd.named
  have hnm := (name_of_methodNamed Bd.named Bd.method).1
  have X0 : Stand p l e ({ frames := 2, cells := 1, slots := 4, locals := 30 } : Room) s m #[(.int i1), (.long j2)] below meth c s₁ [] 0 0 := Stand.of_body Bd
  have e0 : s₁.heap = h0 := by rw [← hh, Bd.state]; rfl
  have N0 := Fr.nil n0
  refine (?_ : own_Fin p e below _ _)
  refine own_st (fun t k => castTop (ef_13_IJ m i1 j2) k) ?_
  show own_Fin p e below _ (s₁.setTop (mkF m 0 #[.val (.int i1), .val (.long j2), .second] []))
  obtain ⟨T1, h1, X1, e1, E1, A1, D1, -, st1⟩ := newO X0 hx hZ hown (hw _ (List.mem_of_getElem? (i := 9) rfl)) (hw _ (List.mem_of_getElem? (i := 10) rfl)) (hw _ (List.mem_of_getElem? (i := 7) rfl)) e0 (g := (mkF m 0 #[.val (.int i1), .val (.long j2), .second] [])) rfl (hb hby d13_0) (by decide) (by decide)
  obtain ⟨b1, g1⟩ : ∃ z, z = Array.size h0 := ⟨_, rfl⟩
  rw [show Array.size h0 = b1 from g1.symm] at A1 D1 st1
  have le_b1 : Array.size h0 ≤ b1 := Nat.le_of_eq g1.symm
  have sz_b1 : h0.size ≤ b1 := Nat.le_trans (Keep.refl h0 []).1 le_b1
  have g_b1 : n0 ≤ b1 := Nat.le_trans Z0 sz_b1
  have Z2 : n0 ≤ Array.size h1 := Nat.le_trans Z0 E1.1
  have KC2 : Keep h0 h1 [] := (Keep.refl h0 []).ext E1
  have F1_21 : Fld Z h1 b1 "com/example/deioces/deioces/Message" "kind" "Lcom/example/deioces/deioces/Message$Kind;" .null := D1 (Or.inr (hw _ (List.mem_of_getElem? (i := 21) rfl))) (ty := (.object "com/example/deioces/deioces/Message$Kind")) (by decide)
  have F1_23 : Fld Z h1 b1 "com/example/deioces/deioces/Message" "sender" "I" (.int (0 : Int32)) := D1 (Or.inr (hw _ (List.mem_of_getElem? (i := 23) rfl))) (ty := .int) (by decide)
  have F1_25 : Fld Z h1 b1 "com/example/deioces/deioces/Message" "stamp" "J" (.long (0 : Int64)) := D1 (Or.inr (hw _ (List.mem_of_getElem? (i := 25) rfl))) (ty := .long) (by decide)
  have F1_27 : Fld Z h1 b1 "com/example/deioces/deioces/Message" "supportive" "Z" (.int (0 : Int32)) := D1 (Or.inr (hw _ (List.mem_of_getElem? (i := 27) rfl))) (ty := .boolean) (by decide)
  refine own_st st1 ?_
  show own_Fin p e below _ (T1.setTop (mkF m 3 #[.val (.int i1), .val (.long j2), .second] [(.ref b1)]))
  refine own_st (fun t k => XS.dup X1.here hx rfl (hb hby d13_3) rfl rfl k) ?_
  show own_Fin p e below _ (T1.setTop (mkF m 4 #[.val (.int i1), .val (.long j2), .second] [(.ref b1), (.ref b1)]))
  have F3 : Sta Z h1 "com/example/deioces/deioces/Message$Kind" "RELEASE" "Lcom/example/deioces/deioces/Message$Kind;" (.ref a3) := (P0.ext E1)
  obtain ⟨T4, X4, e4, st4⟩ := getS2 X1 hx hZ hown (host := "") (Or.inl (hw _ (List.mem_of_getElem? (i := 82) rfl))) Via.refl e1 F3 (g := (mkF m 4 #[.val (.int i1), .val (.long j2), .second] [(.ref b1), (.ref b1)])) rfl (hb hby d13_4)
  refine own_st st4 ?_
  show own_Fin p e below _ (T4.setTop (mkF m 7 #[.val (.int i1), .val (.long j2), .second] [(.ref a3), (.ref b1), (.ref b1)]))
  refine own_st (fun t k => XS.iloadN X4.here hx rfl (hb hby d13_7) rfl k) ?_
  show own_Fin p e below _ (T4.setTop (mkF m 8 #[.val (.int i1), .val (.long j2), .second] [(.int i1), (.ref a3), (.ref b1), (.ref b1)]))
  refine own_st (fun t k => XS.lloadN X4.here hx rfl (hb hby d13_8) rfl k) ?_
  show own_Fin p e below _ (T4.setTop (mkF m 9 #[.val (.int i1), .val (.long j2), .second] [(.long j2), (.int i1), (.ref a3), (.ref b1), (.ref b1)]))
  refine own_st (fun t k => XS.iconst X4.here hx rfl (hb hby d13_9) k) ?_
  show own_Fin p e below _ (T4.setTop (mkF m 10 #[.val (.int i1), .val (.long j2), .second] [(.int (0 : Int32)), (.long j2), (.int i1), (.ref a3), (.ref b1), (.ref b1)]))
  obtain ⟨_, _, ⟨T5, L5, k5, n5⟩, -, X5, ⟨Lc5, hQ5, l5, y5, z5⟩, st5⟩ := X4.specialBack hx (y := (⟨"com/example/deioces/deioces/Message", "<init>", "(Lcom/example/deioces/deioces/Message$Kind;IJZ)V"⟩ : MethodName)) rfl hown (mvT hZ (hw _ (List.mem_of_getElem? (i := 14) rfl))) (mvT hZ (hw _ (List.mem_of_getElem? (i := 15) rfl))) (mvT hZ (hw _ (List.mem_of_getElem? (i := 16) rfl))) (by decide) (backOf (W := 1) (rm3_1 l Z a0 hw [] b1 a3 i1 j2 h1 n0 Z2 F1_21 A1 g_b1 F1_23 F1_25 F1_27) hZ (hw _ (List.mem_of_getElem? (i := 16) rfl)) (hw _ (List.mem_of_getElem? (i := 7) rfl)) (by decide) (by decide)) (g := (mkF m 10 #[.val (.int i1), .val (.long j2), .second] [(.int (0 : Int32)), (.long j2), (.int i1), (.ref a3), (.ref b1), (.ref b1)])) rfl (by rw [hml]; rfl) (Steps.refl _) (a := b1) (argsL := [(.ref a3), (.int i1), (.long j2), (.int (0 : Int32))]) (rest := [(.ref b1)]) (lenOf pd__Lcom_example_deioces_deioces_Message_Kind_IJZ_V rfl) rfl (by show 2 * 0 + _ ≤ _; exact Nat.le_of_eq rfl) (hb hby d13_10) (fun _ _ => ⟨rfl, e4, (by decide : 1 + 0 ≤ _), (by decide : 4 + 0 ≤ _)⟩)
  dsimp only [Pt.U, Pt.locs, Pt.cells, Pt.slots] at X5 l5 y5 z5 st5 hQ5
  subst l5 y5 z5
  obtain ⟨rfl, N5q, K5q, G5_0, G5_1, G5_2, G5_3⟩ := hQ5
  have Z6 : n0 ≤ Array.size T5.heap := Nat.le_trans Z2 K5q.1
  have KC6 : Keep h0 T5.heap [] := KC2.trans K5q (allS (Or.inr sz_b1) all0)
  have N5 := Fr.app N0 N5q
  refine own_tr st5 ?_
  show own_Fin p e below _ (T5.setTop (mkF m 13 #[.val (.int i1), .val (.long j2), .second] [(.ref b1)]))
  have F7 : Exa Z T5.heap b1 "com/example/deioces/deioces/Message" := (A1.keep K5q)
  obtain ⟨fs, hr, hrun, hended, hW, hsame⟩ := X5.leave (v := some (.ref b1)) (fun h => by rw [Bd.returns] at h; cases h)
  have hQf : Q13_18 Z i1 j2 a3 h0 n0 _ T5.heap _ := ⟨b1, rfl, N5, KC6, sz_b1, F7, G5_0, G5_1, G5_2, G5_3⟩
  exact ⟨_, _, retOut X5 hx (t := (.object "com/example/deioces/deioces/Message")) Bd.returns rfl (Or.inr (Or.inr (Or.inr (Or.inr ⟨rfl, rfl, rfl⟩)))) (hb hby d13_13) hr, hrun, hended, _, _, rfl, hQf, ⟨_, rfl⟩, hW, hsame.mono (by decide) (by decide)⟩
theorem d1_50 : decode method_2_code 50 = .ok (.areturn, 1) := by decide +kernel
def Q1_19 (Z : State) (i1 : Int32) (i2 : Int32) (j3 : Int64) (a4 : Addr) (h0 : Heap) (n0 : Nat) (v : Option Value) (h : Heap) (L : List Loc) : Prop := ∃ b1_0 : Addr, v = some (.ref b1_0) ∧ Fr n0 L ∧ Keep h0 h [] ∧ Array.size h0 ≤ b1_0 ∧ Exa Z h b1_0 "com/example/deioces/deioces/Message" ∧ Fld Z h b1_0 "com/example/deioces/deioces/Message" "kind" "Lcom/example/deioces/deioces/Message$Kind;" (.ref a4) ∧ Fld Z h b1_0 "com/example/deioces/deioces/Message" "sender" "I" (.int i2) ∧ Fld Z h b1_0 "com/example/deioces/deioces/Message" "stamp" "J" (.long j3) ∧ Fld Z h b1_0 "com/example/deioces/deioces/Message" "supportive" "Z" (.int (0 : Int32))
set_option maxRecDepth 65536 in
set_option maxHeartbeats 40000000 in
theorem rm1_19 (l : Launch) (Z : State) (a0 : Array Value) (hw : ∀ d ∈ tables_1, d.before a0 Z = true) (ws : List Jvm.Cond) (i1 : Int32) (i2 : Int32) (j3 : Int64) (a4 : Addr) (h0 : Heap) (n0 : Nat) (Z0 : n0 ≤ Array.size h0) (P0 : (i1 &&& (3 : Int32)) = (2 : Int32)) (P1 : Sta Z h0 "com/example/deioces/deioces/Message$Kind" "RELEASE" "Lcom/example/deioces/deioces/Message$Kind;" (.ref a4)) :
    MetFree l (⟨"com/example/deioces/deioces/DatagramEchoingPinLaw", "makeMessage", "(IIJ)Lcom/example/deioces/deioces/Message;"⟩ : MethodName) (head1 (Jvm.Cond.code (⟨"com/example/deioces/deioces/DatagramEchoingPinLaw", "makeMessage", "(IIJ)Lcom/example/deioces/deioces/Message;"⟩ : MethodName) method_2_code 5 (some (.object "com/example/deioces/deioces/Message")) :: ws) ({ frames := 3, cells := 1, slots := 4, locals := 44 } : Room)) (fun a U => a = #[(.int i1), (.int i2), (.long j3)] ∧ Z.Warmed39 U.vm ∧ U.heap = h0) (fun _ _ _ _ _ => True) (fun _ U o U' => ∃ v L, o = .returned v ∧ Q1_19 Z i1 i2 j3 a4 h0 n0 v U'.heap L ∧ FrameEnd U o U' L ({ frames := 3, cells := 1, slots := 4, locals := 44 } : Room).cells ({ frames := 3, cells := 1, slots := 4, locals := 44 } : Room).slots) := by
  refine MetFree.of_bodySF (plainFor_of_name pn_com_example_deioces_deioces_DatagramEchoingPinLaw) hisR ?_
  intro p e s m args below meth c s₁ Bd hml0 hP hK
  obtain ⟨rfl, hZ, hh⟩ := hP
  have hx := Bd.exec
  have hby := Bd.bytes
  have hml : c.maxLocals = 5 := hml0
  have hown : s.vm.findClass "com/example/deioces/deioces/DatagramEchoingPinLaw" = some m.cls := findClass_of_methodNamed Bd.named
  have hnm := (name_of_methodNamed Bd.named Bd.method).1
  have X0 : Stand p l e ({ frames := 3, cells := 1, slots := 4, locals := 44 } : Room) s m #[(.int i1), (.int i2), (.long j3)] below meth c s₁ [] 0 0 := Stand.of_body Bd
  have e0 : s₁.heap = h0 := by rw [← hh, Bd.state]; rfl
  have N0 := Fr.nil n0
  refine (?_ : own_Fin p e below _ _)
  refine own_st (fun t k => castTop (ef_1_IIJ m i1 i2 j3) k) ?_
  show own_Fin p e below _ (s₁.setTop (mkF m 0 #[.val (.int i1), .val (.int i2), .val (.long j3), .second, .unset] []))
  refine own_st (fun t k => XS.iloadN X0.here hx rfl (hb hby d1_0) rfl k) ?_
  show own_Fin p e below _ (s₁.setTop (mkF m 1 #[.val (.int i1), .val (.int i2), .val (.long j3), .second, .unset] [(.int i1)]))
  refine own_st (fun t k => XS.iconst X0.here hx rfl (hb hby d1_1) k) ?_
  show own_Fin p e below _ (s₁.setTop (mkF m 2 #[.val (.int i1), .val (.int i2), .val (.long j3), .second, .unset] [(.int (3 : Int32)), (.int i1)]))
  refine own_st (fun t k => XS.iand X0.here hx rfl (hb hby d1_2) rfl k) ?_
  show own_Fin p e below _ (s₁.setTop (mkF m 3 #[.val (.int i1), .val (.int i2), .val (.long j3), .second, .unset] [(.int (i1 &&& (3 : Int32)))]))
  rw [P0]
  show own_Fin p e below _ (s₁.setTop (mkF m 3 #[.val (.int i1), .val (.int i2), .val (.long j3), .second, .unset] [(.int (2 : Int32))]))
  refine own_st (fun t k => XS.istore X0.here hx rfl (hb hby d1_3) rfl (l' := #[.val (.int i1), .val (.int i2), .val (.long j3), .second, .val (.int (2 : Int32))]) rfl k) ?_
  show own_Fin p e below _ (s₁.setTop (mkF m 5 #[.val (.int i1), .val (.int i2), .val (.long j3), .second, .val (.int (2 : Int32))] []))
  refine own_st (fun t k => XS.iload X0.here hx rfl (hb hby d1_5) rfl k) ?_
  show own_Fin p e below _ (s₁.setTop (mkF m 7 #[.val (.int i1), .val (.int i2), .val (.long j3), .second, .val (.int (2 : Int32))] [(.int (2 : Int32))]))
  refine own_st (fun t k => XS.ifYes X0.here hx rfl (pc0 := 7) (pc' := 16) rfl (hb hby d1_7) rfl (by decide) (by decide) (by decide) k) ?_
  show own_Fin p e below _ (s₁.setTop (mkF m 16 #[.val (.int i1), .val (.int i2), .val (.long j3), .second, .val (.int (2 : Int32))] []))
  refine own_st (fun t k => XS.iload X0.here hx rfl (hb hby d1_16) rfl k) ?_
  show own_Fin p e below _ (s₁.setTop (mkF m 18 #[.val (.int i1), .val (.int i2), .val (.long j3), .second, .val (.int (2 : Int32))] [(.int (2 : Int32))]))
  refine own_st (fun t k => XS.iconst X0.here hx rfl (hb hby d1_18) k) ?_
  show own_Fin p e below _ (s₁.setTop (mkF m 19 #[.val (.int i1), .val (.int i2), .val (.long j3), .second, .val (.int (2 : Int32))] [(.int (1 : Int32)), (.int (2 : Int32))]))
  refine own_st (fun t k => XS.icmpYes X0.here hx rfl (pc0 := 19) (pc' := 39) rfl (hb hby d1_19) rfl (by decide) (by decide) (by decide) k) ?_
  show own_Fin p e below _ (s₁.setTop (mkF m 39 #[.val (.int i1), .val (.int i2), .val (.long j3), .second, .val (.int (2 : Int32))] []))
  refine own_st (fun t k => XS.iload X0.here hx rfl (hb hby d1_39) rfl k) ?_
  show own_Fin p e below _ (s₁.setTop (mkF m 41 #[.val (.int i1), .val (.int i2), .val (.long j3), .second, .val (.int (2 : Int32))] [(.int (2 : Int32))]))
  refine own_st (fun t k => XS.iconst X0.here hx rfl (hb hby d1_41) k) ?_
  show own_Fin p e below _ (s₁.setTop (mkF m 42 #[.val (.int i1), .val (.int i2), .val (.long j3), .second, .val (.int (2 : Int32))] [(.int (2 : Int32)), (.int (2 : Int32))]))
  refine own_st (fun t k => XS.icmpNo X0.here hx rfl (hb hby d1_42) rfl (by decide) k) ?_
  show own_Fin p e below _ (s₁.setTop (mkF m 45 #[.val (.int i1), .val (.int i2), .val (.long j3), .second, .val (.int (2 : Int32))] []))
  refine own_st (fun t k => XS.iloadN X0.here hx rfl (hb hby d1_45) rfl k) ?_
  show own_Fin p e below _ (s₁.setTop (mkF m 46 #[.val (.int i1), .val (.int i2), .val (.long j3), .second, .val (.int (2 : Int32))] [(.int i2)]))
  refine own_st (fun t k => XS.lloadN X0.here hx rfl (hb hby d1_46) rfl k) ?_
  show own_Fin p e below _ (s₁.setTop (mkF m 47 #[.val (.int i1), .val (.int i2), .val (.long j3), .second, .val (.int (2 : Int32))] [(.long j3), (.int i2)]))
  obtain ⟨_, _, ⟨T1, L1, k1, n1⟩, -, X1, ⟨Lc1, hQ1, l1, y1, z1⟩, st1⟩ := Jvm.LawKit.callS X0 hx (y := (⟨"com/example/deioces/deioces/Message", "release", "(IJ)Lcom/example/deioces/deioces/Message;"⟩ : MethodName)) hown (mvT hZ (hw _ (List.mem_of_getElem? (i := 79) rfl))) (mvT hZ (hw _ (List.mem_of_getElem? (i := 80) rfl))) (mvT hZ (hw _ (List.mem_of_getElem? (i := 7) rfl))) (mvT hZ (hw _ (List.mem_of_getElem? (i := 81) rfl))) (by decide) (backOf (W := 0) (rm13_18 l Z a0 hw [] i2 j3 a4 h0 n0 Z0 P1) hZ (hw _ (List.mem_of_getElem? (i := 81) rfl)) (hw _ (List.mem_of_getElem? (i := 7) rfl)) (by decide) (by decide)) (g := (mkF m 47 #[.val (.int i1), .val (.int i2), .val (.long j3), .second, .val (.int (2 : Int32))] [(.long j3), (.int i2)])) rfl (by rw [hml]; rfl) (argsL := [(.int i2), (.long j3)]) (rest := []) (lenOf pd__IJ_Lcom_example_deioces_deioces_Message_ rfl) rfl (by show 2 * 0 + _ ≤ _; exact Nat.le_of_eq rfl) (hb hby d1_47) (fun _ _ => ⟨rfl, e0, (by decide : 0 + 1 ≤ _), (by decide : 0 + 4 ≤ _)⟩)
  dsimp only [Pt.U, Pt.locs, Pt.cells, Pt.slots] at X1 l1 y1 z1 st1 hQ1
  subst l1 y1 z1
  obtain ⟨b1_0, rfl, N1q, K1q, le_b1_0, G1_0, G1_1, G1_2, G1_3, G1_4⟩ := hQ1
  have sz_b1_0 : h0.size ≤ b1_0 := Nat.le_trans (Keep.refl h0 []).1 le_b1_0
  have g_b1_0 : n0 ≤ b1_0 := Nat.le_trans Z0 sz_b1_0
  have Z2 : n0 ≤ Array.size T1.heap := Nat.le_trans Z0 K1q.1
  have KC2 : Keep h0 T1.heap [] := (Keep.refl h0 []).trans K1q all0
  have N1 := Fr.app N0 N1q
  refine own_st st1 ?_
  show own_Fin p e below _ (T1.setTop (mkF m 50 #[.val (.int i1), .val (.int i2), .val (.long j3), .second, .val (.int (2 : Int32))] [(.ref b1_0)]))
  obtain ⟨fs, hr, hrun, hended, hW, hsame⟩ := X1.leave (v := some (.ref b1_0)) (fun h => by rw [Bd.returns] at h; cases h)
  have hQf : Q1_19 Z i1 i2 j3 a4 h0 n0 _ T1.heap _ := ⟨b1_0, rfl, N1, KC2, sz_b1_0, G1_0, G1_1, G1_2, G1_3, G1_4⟩
  exact ⟨_, _, retOut X1 hx (t := (.object "com/example/deioces/deioces/Message")) Bd.returns rfl (Or.inr (Or.inr (Or.inr (Or.inr ⟨rfl, rfl, rfl⟩)))) (hb hby d1_50) hr, hrun, hended, _, _, rfl, hQf, ⟨_, rfl⟩, hW, hsame.mono (by decide) (by decide)⟩
set_option maxRecDepth 65536 in
set_option maxHeartbeats 40000000 in
theorem rm0_c20 (l : Launch) (Z : State) (a0 : Array Value) (hw : ∀ d ∈ tables_1, d.before a0 Z = true) (ws : List Jvm.Cond) (w_ELECTION : Addr) (w_RELEASE : Addr) (w_HEARTBEAT : Addr) (w_REPLY : Addr) (p0 : Int32) (p1 : Int32) (p2 : Int64) (p3 : Int64) (p4 : Int64) (p5 : Int64) (h0 : Heap) (n0 : Nat) (Z0 : n0 ≤ Array.size h0) (PN : own_Pins Z h0 w_ELECTION w_RELEASE w_HEARTBEAT w_REPLY) (q0 : (p0 &&& (3 : Int32)) = (2 : Int32)) :
    MetFree l x (head1 (Jvm.Cond.code x code maxLocals ret :: ws) room_1) (fun a U => a = #[(.int p0), (.int p1), (.long p2), (.long p3), (.long p4), (.long p5)] ∧ Z.Warmed39 U.vm ∧ U.heap = h0) (fun _ _ _ _ _ => True) (fun _ U o U' => ∃ v L, o = .returned v ∧ own_Q0 n0 (some (.int (1 : Int32))) v U'.heap L ∧ FrameEnd U o U' L room_1.cells room_1.slots) := by
  refine MetFree.of_bodySF (plainFor_of_name pn_com_example_deioces_deioces_DatagramEchoingPinLaw) hisR ?_
  intro p e s m args below meth c s₁ Bd hml0 hP hK
  obtain ⟨rfl, hZ, hh⟩ := hP
  have hx := Bd.exec
  have hby := Bd.bytes
  have hml : c.maxLocals = 14 := hml0
  have hown : s.vm.findClass "com/example/deioces/deioces/DatagramEchoingPinLaw" = some m.cls := findClass_of_methodNamed Bd.named
  have hnm := (name_of_methodNamed Bd.named Bd.method).1
  have X0 : Stand p l e room_1 s m #[(.int p0), (.int p1), (.long p2), (.long p3), (.long p4), (.long p5)] below meth c s₁ [] 0 0 := Stand.of_body Bd
  have e0 : s₁.heap = h0 := by rw [← hh, Bd.state]; rfl
  have N0 := Fr.nil n0
  obtain ⟨S_ELECTION, E_ELECTION, S_RELEASE, E_RELEASE, S_HEARTBEAT, E_HEARTBEAT, S_REPLY, E_REPLY⟩ := PN
  refine (?_ : own_Fin p e below _ _)
  refine own_st (fun t k => castTop (ef_0_IIJJJJ m p0 p1 p2 p3 p4 p5) k) ?_
  show own_Fin p e below _ (s₁.setTop (mkF m 0 #[.val (.int p0), .val (.int p1), .val (.long p2), .second, .val (.long p3), .second, .val (.long p4), .second, .val (.long p5), .second, .unset, .unset, .unset, .unset] []))
  refine own_st (fun t k => XS.lload X0.here hx rfl (hb hby at_0) rfl k) ?_
  show own_Fin p e below _ (s₁.setTop (mkF m 2 #[.val (.int p0), .val (.int p1), .val (.long p2), .second, .val (.long p3), .second, .val (.long p4), .second, .val (.long p5), .second, .unset, .unset, .unset, .unset] [(.long p5)]))
  refine own_st (fun t k => X0.ldc2J hx hown (mvT hZ (hw _ (List.mem_of_getElem? (i := 0) rfl))) rfl (hb hby at_2) k) ?_
  show own_Fin p e below _ (s₁.setTop (mkF m 5 #[.val (.int p0), .val (.int p1), .val (.long p2), .second, .val (.long p3), .second, .val (.long p4), .second, .val (.long p5), .second, .unset, .unset, .unset, .unset] [(.long (9223372036854775807 : Int64)), (.long p5)]))
  refine own_st (fun t k => XS.land X0.here hx rfl (hb hby at_5) rfl k) ?_
  show own_Fin p e below _ (s₁.setTop (mkF m 6 #[.val (.int p0), .val (.int p1), .val (.long p2), .second, .val (.long p3), .second, .val (.long p4), .second, .val (.long p5), .second, .unset, .unset, .unset, .unset] [(.long (p5 &&& (9223372036854775807 : Int64)))]))
  refine own_st (fun t k => XS.lstore X0.here hx rfl (hb hby at_6) rfl (l' := #[.val (.int p0), .val (.int p1), .val (.long p2), .second, .val (.long p3), .second, .val (.long p4), .second, .val (.long p5), .second, .val (.long (p5 &&& (9223372036854775807 : Int64))), .second, .unset, .unset]) rfl k) ?_
  show own_Fin p e below _ (s₁.setTop (mkF m 8 #[.val (.int p0), .val (.int p1), .val (.long p2), .second, .val (.long p3), .second, .val (.long p4), .second, .val (.long p5), .second, .val (.long (p5 &&& (9223372036854775807 : Int64))), .second, .unset, .unset] []))
  refine own_st (fun t k => XS.iloadN X0.here hx rfl (hb hby at_8) rfl k) ?_
  show own_Fin p e below _ (s₁.setTop (mkF m 9 #[.val (.int p0), .val (.int p1), .val (.long p2), .second, .val (.long p3), .second, .val (.long p4), .second, .val (.long p5), .second, .val (.long (p5 &&& (9223372036854775807 : Int64))), .second, .unset, .unset] [(.int p0)]))
  refine own_st (fun t k => XS.iloadN X0.here hx rfl (hb hby at_9) rfl k) ?_
  show own_Fin p e below _ (s₁.setTop (mkF m 10 #[.val (.int p0), .val (.int p1), .val (.long p2), .second, .val (.long p3), .second, .val (.long p4), .second, .val (.long p5), .second, .val (.long (p5 &&& (9223372036854775807 : Int64))), .second, .unset, .unset] [(.int p1), (.int p0)]))
  refine own_st (fun t k => XS.lloadN X0.here hx rfl (hb hby at_10) rfl k) ?_
  show own_Fin p e below _ (s₁.setTop (mkF m 11 #[.val (.int p0), .val (.int p1), .val (.long p2), .second, .val (.long p3), .second, .val (.long p4), .second, .val (.long p5), .second, .val (.long (p5 &&& (9223372036854775807 : Int64))), .second, .unset, .unset] [(.long p2), (.int p1), (.int p0)]))
  obtain ⟨_, _, ⟨T1, L1, k1, n1⟩, -, X1, ⟨Lc1, hQ1, l1, y1, z1⟩, st1⟩ := Jvm.LawKit.callS X0 hx (y := (⟨"com/example/deioces/deioces/DatagramEchoingPinLaw", "makeMessage", "(IIJ)Lcom/example/deioces/deioces/Message;"⟩ : MethodName)) hown (mvT hZ (hw _ (List.mem_of_getElem? (i := 1) rfl))) (mvT hZ (hw _ (List.mem_of_getElem? (i := 2) rfl))) (mvT hZ (hw _ (List.mem_of_getElem? (i := 3) rfl))) (mvT hZ (hw _ (List.mem_of_getElem? (i := 4) rfl))) (by decide) (backOf (W := 0) (rm1_19 l Z a0 hw [] p0 p1 p2 w_RELEASE h0 n0 Z0 q0 S_RELEASE) hZ (hw _ (List.mem_of_getElem? (i := 4) rfl)) (hw _ (List.mem_of_getElem? (i := 3) rfl)) (by decide) (by decide)) (g := (mkF m 11 #[.val (.int p0), .val (.int p1), .val (.long p2), .second, .val (.long p3), .second, .val (.long p4), .second, .val (.long p5), .second, .val (.long (p5 &&& (9223372036854775807 : Int64))), .second, .unset, .unset] [(.long p2), (.int p1), (.int p0)])) rfl (by rw [hml]; rfl) (argsL := [(.int p0), (.int p1), (.long p2)]) (rest := []) (lenOf pd__IIJ_Lcom_example_deioces_deioces_Message_ rfl) rfl (by show 2 * 0 + _ ≤ _; exact Nat.le_of_eq rfl) (hb hby at_11) (fun _ _ => ⟨rfl, e0, (by decide : 0 + 1 ≤ _), (by decide : 0 + 4 ≤ _)⟩)
  dsimp only [Pt.U, Pt.locs, Pt.cells, Pt.slots] at X1 l1 y1 z1 st1 hQ1
  subst l1 y1 z1
  obtain ⟨b1_0, rfl, N1q, K1q, le_b1_0, G1_0, G1_1, G1_2, G1_3, G1_4⟩ := hQ1
  have sz_b1_0 : h0.size ≤ b1_0 := Nat.le_trans (Keep.refl h0 []).1 le_b1_0
  have g_b1_0 : n0 ≤ b1_0 := Nat.le_trans Z0 sz_b1_0
  have Z2 : n0 ≤ Array.size T1.heap := Nat.le_trans Z0 K1q.1
  have KC2 : Keep h0 T1.heap [] := (Keep.refl h0 []).trans K1q all0
  have N1 := Fr.app N0 N1q
  refine own_st st1 ?_
  show own_Fin p e below _ (T1.setTop (mkF m 14 #[.val (.int p0), .val (.int p1), .val (.long p2), .second, .val (.long p3), .second, .val (.long p4), .second, .val (.long p5), .second, .val (.long (p5 &&& (9223372036854775807 : Int64))), .second, .unset, .unset] [(.ref b1_0)]))
  refine own_st (fun t k => XS.astore X1.here hx rfl (hb hby at_14) rfl rfl (l' := #[.val (.int p0), .val (.int p1), .val (.long p2), .second, .val (.long p3), .second, .val (.long p4), .second, .val (.long p5), .second, .val (.long (p5 &&& (9223372036854775807 : Int64))), .second, .val (.ref b1_0), .unset]) rfl k) ?_
  show own_Fin p e below _ (T1.setTop (mkF m 16 #[.val (.int p0), .val (.int p1), .val (.long p2), .second, .val (.long p3), .second, .val (.long p4), .second, .val (.long p5), .second, .val (.long (p5 &&& (9223372036854775807 : Int64))), .second, .val (.ref b1_0), .unset] []))
  refine own_st (fun t k => XS.aload X1.here hx rfl (hb hby at_16) rfl rfl k) ?_
  show own_Fin p e below _ (T1.setTop (mkF m 18 #[.val (.int p0), .val (.int p1), .val (.long p2), .second, .val (.long p3), .second, .val (.long p4), .second, .val (.long p5), .second, .val (.long (p5 &&& (9223372036854775807 : Int64))), .second, .val (.ref b1_0), .unset] [(.ref b1_0)]))
  refine own_st (fun t k => XS.lload X1.here hx rfl (hb hby at_18) rfl k) ?_
  show own_Fin p e below _ (T1.setTop (mkF m 20 #[.val (.int p0), .val (.int p1), .val (.long p2), .second, .val (.long p3), .second, .val (.long p4), .second, .val (.long p5), .second, .val (.long (p5 &&& (9223372036854775807 : Int64))), .second, .val (.ref b1_0), .unset] [(.long p3), (.ref b1_0)]))
  refine own_st (fun t k => XS.lload X1.here hx rfl (hb hby at_20) rfl k) ?_
  show own_Fin p e below _ (T1.setTop (mkF m 22 #[.val (.int p0), .val (.int p1), .val (.long p2), .second, .val (.long p3), .second, .val (.long p4), .second, .val (.long p5), .second, .val (.long (p5 &&& (9223372036854775807 : Int64))), .second, .val (.ref b1_0), .unset] [(.long p4), (.long p3), (.ref b1_0)]))
  refine own_st (fun t k => XS.lload X1.here hx rfl (hb hby at_22) rfl k) ?_
  show own_Fin p e below _ (T1.setTop (mkF m 24 #[.val (.int p0), .val (.int p1), .val (.long p2), .second, .val (.long p3), .second, .val (.long p4), .second, .val (.long p5), .second, .val (.long (p5 &&& (9223372036854775807 : Int64))), .second, .val (.ref b1_0), .unset] [(.long (p5 &&& (9223372036854775807 : Int64))), (.long p4), (.long p3), (.ref b1_0)]))
  obtain ⟨_, _, ⟨T3, L3, k3, n3⟩, -, X3, ⟨Lc3, hQ3, l3, y3, z3⟩, st3⟩ := Jvm.LawKit.callS X1 hx (y := (⟨"com/example/deioces/deioces/Datagram", "echoing", "(Lcom/example/deioces/deioces/Message;JJJ)Lcom/example/deioces/deioces/Datagram;"⟩ : MethodName)) hown (mvT hZ (hw _ (List.mem_of_getElem? (i := 28) rfl))) (mvT hZ (hw _ (List.mem_of_getElem? (i := 29) rfl))) (mvT hZ (hw _ (List.mem_of_getElem? (i := 30) rfl))) (mvT hZ (hw _ (List.mem_of_getElem? (i := 31) rfl))) (by decide) (backOf (W := 0) (rm5_5 l Z a0 hw [] b1_0 p3 p4 (p5 &&& (9223372036854775807 : Int64)) T1.heap n0 Z2) hZ (hw _ (List.mem_of_getElem? (i := 31) rfl)) (hw _ (List.mem_of_getElem? (i := 30) rfl)) (by decide) (by decide)) (g := (mkF m 24 #[.val (.int p0), .val (.int p1), .val (.long p2), .second, .val (.long p3), .second, .val (.long p4), .second, .val (.long p5), .second, .val (.long (p5 &&& (9223372036854775807 : Int64))), .second, .val (.ref b1_0), .unset] [(.long (p5 &&& (9223372036854775807 : Int64))), (.long p4), (.long p3), (.ref b1_0)])) rfl (by rw [hml]; rfl) (argsL := [(.ref b1_0), (.long p3), (.long p4), (.long (p5 &&& (9223372036854775807 : Int64)))]) (rest := []) (lenOf pd__Lcom_example_deioces_deioces_Message_JJJ_Lcom_example_deioces_deioces_Datagram_ rfl) rfl (by show 2 * 0 + _ ≤ _; exact Nat.le_of_eq rfl) (hb hby at_24) (fun _ _ => ⟨rfl, rfl, (by decide : 1 + 1 ≤ _), (by decide : 4 + 5 ≤ _)⟩)
  dsimp only [Pt.U, Pt.locs, Pt.cells, Pt.slots] at X3 l3 y3 z3 st3 hQ3
  subst l3 y3 z3
  obtain ⟨b3_0, rfl, N3q, K3q, le_b3_0, G3_0, G3_1, G3_2, G3_3, G3_4, G3_5⟩ := hQ3
  have sz_b3_0 : h0.size ≤ b3_0 := Nat.le_trans KC2.1 le_b3_0
  have g_b3_0 : n0 ≤ b3_0 := Nat.le_trans Z0 sz_b3_0
  have Z4 : n0 ≤ Array.size T3.heap := Nat.le_trans Z2 K3q.1
  have KC4 : Keep h0 T3.heap [] := KC2.trans K3q all0
  have N3 := Fr.app N1 N3q
  refine own_st st3 ?_
  show own_Fin p e below _ (T3.setTop (mkF m 27 #[.val (.int p0), .val (.int p1), .val (.long p2), .second, .val (.long p3), .second, .val (.long p4), .second, .val (.long p5), .second, .val (.long (p5 &&& (9223372036854775807 : Int64))), .second, .val (.ref b1_0), .unset] [(.ref b3_0)]))
  refine own_st (fun t k => XS.astore X3.here hx rfl (hb hby at_27) rfl rfl (l' := #[.val (.int p0), .val (.int p1), .val (.long p2), .second, .val (.long p3), .second, .val (.long p4), .second, .val (.long p5), .second, .val (.long (p5 &&& (9223372036854775807 : Int64))), .second, .val (.ref b1_0), .val (.ref b3_0)]) rfl k) ?_
  show own_Fin p e below _ (T3.setTop (mkF m 29 #[.val (.int p0), .val (.int p1), .val (.long p2), .second, .val (.long p3), .second, .val (.long p4), .second, .val (.long p5), .second, .val (.long (p5 &&& (9223372036854775807 : Int64))), .second, .val (.ref b1_0), .val (.ref b3_0)] []))
  refine own_st (fun t k => XS.aload X3.here hx rfl (hb hby at_29) rfl rfl k) ?_
  show own_Fin p e below _ (T3.setTop (mkF m 31 #[.val (.int p0), .val (.int p1), .val (.long p2), .second, .val (.long p3), .second, .val (.long p4), .second, .val (.long p5), .second, .val (.long (p5 &&& (9223372036854775807 : Int64))), .second, .val (.ref b1_0), .val (.ref b3_0)] [(.ref b3_0)]))
  obtain ⟨cq5, kq5, q5a, q5b, q5c⟩ := isOf hZ rfl G3_0
  obtain ⟨_, _, ⟨T5, L5, k5, n5⟩, -, X5, ⟨Lc5, hQ5, l5, y5, z5⟩, st5⟩ := X3.virtualBack hx (y := (⟨"com/example/deioces/deioces/Datagram", "message", "()Lcom/example/deioces/deioces/Message;"⟩ : MethodName)) (z := (⟨"com/example/deioces/deioces/Datagram", "message", "()Lcom/example/deioces/deioces/Message;"⟩ : MethodName)) hown (mvT hZ (hw _ (List.mem_of_getElem? (i := 48) rfl))) (mvT hZ (hw _ (List.mem_of_getElem? (i := 49) rfl))) (notFace_of_selects (args := #[]) (mvT hZ (hw _ (List.mem_of_getElem? (i := 51) rfl)))) (mvT hZ (hw _ (List.mem_of_getElem? (i := 51) rfl))) (mvT hZ (hw _ (List.mem_of_getElem? (i := 50) rfl))) (by decide) (backOf (W := 0) (rm7_6 l Z a0 hw [] b3_0 b1_0 T3.heap n0 Z4 G3_1) hZ (hw _ (List.mem_of_getElem? (i := 52) rfl)) (hw _ (List.mem_of_getElem? (i := 30) rfl)) (by decide) (by decide)) q5a q5c (g := (mkF m 31 #[.val (.int p0), .val (.int p1), .val (.long p2), .second, .val (.long p3), .second, .val (.long p4), .second, .val (.long p5), .second, .val (.long (p5 &&& (9223372036854775807 : Int64))), .second, .val (.ref b1_0), .val (.ref b3_0)] [(.ref b3_0)])) rfl (by rw [hml]; rfl) (Steps.refl _) (argsL := []) (rest := []) (lenOf pd___Lcom_example_deioces_deioces_Message_ rfl) rfl (by show 2 * 0 + _ ≤ _; exact Nat.le_of_eq rfl) (hb hby at_31) (fun _ _ => ⟨rfl, rfl, (by decide : 2 + 0 ≤ _), (by decide : 9 + 0 ≤ _)⟩)
  dsimp only [Pt.U, Pt.locs, Pt.cells, Pt.slots] at X5 l5 y5 z5 st5 hQ5
  subst l5 y5 z5
  obtain ⟨rfl, N5q, e5⟩ := hQ5
  have N5 := Fr.app N3 N5q
  refine own_tr st5 ?_
  show own_Fin p e below _ (T5.setTop (mkF m 34 #[.val (.int p0), .val (.int p1), .val (.long p2), .second, .val (.long p3), .second, .val (.long p4), .second, .val (.long p5), .second, .val (.long (p5 &&& (9223372036854775807 : Int64))), .second, .val (.ref b1_0), .val (.ref b3_0)] [(.ref b1_0)]))
  refine own_st (fun t k => XS.aload X5.here hx rfl (hb hby at_34) rfl rfl k) ?_
  show own_Fin p e below _ (T5.setTop (mkF m 36 #[.val (.int p0), .val (.int p1), .val (.long p2), .second, .val (.long p3), .second, .val (.long p4), .second, .val (.long p5), .second, .val (.long (p5 &&& (9223372036854775807 : Int64))), .second, .val (.ref b1_0), .val (.ref b3_0)] [(.ref b1_0), (.ref b1_0)]))
  have F7 : Exa Z T3.heap b1_0 "com/example/deioces/deioces/Message" := (G1_0.keep K3q)
  have F8 : Fld Z T3.heap b1_0 "com/example/deioces/deioces/Message" "kind" "Lcom/example/deioces/deioces/Message$Kind;" (.ref w_RELEASE) := (G1_1.keep K3q nin0)
  have F9 : Fld Z T3.heap b1_0 "com/example/deioces/deioces/Message" "sender" "I" (.int p1) := (G1_2.keep K3q nin0)
  have F10 : Fld Z T3.heap b1_0 "com/example/deioces/deioces/Message" "stamp" "J" (.long p2) := (G1_3.keep K3q nin0)
  have F11 : Fld Z T3.heap b1_0 "com/example/deioces/deioces/Message" "supportive" "Z" (.int (0 : Int32)) := (G1_4.keep K3q nin0)
  obtain ⟨cq6, kq6, q6a, q6b, q6c⟩ := isOf hZ e5 F7
  obtain ⟨_, _, ⟨T6, L6, k6, n6⟩, -, X6, ⟨Lc6, hQ6, l6, y6, z6⟩, st6⟩ := X5.virtualBack hx (y := (⟨"com/example/deioces/deioces/Message", "equals", "(Ljava/lang/Object;)Z"⟩ : MethodName)) (z := (⟨"com/example/deioces/deioces/Message", "equals", "(Ljava/lang/Object;)Z"⟩ : MethodName)) hown (mvT hZ (hw _ (List.mem_of_getElem? (i := 53) rfl))) (mvT hZ (hw _ (List.mem_of_getElem? (i := 54) rfl))) (notFace_of_selects (args := #[]) (mvT hZ (hw _ (List.mem_of_getElem? (i := 56) rfl)))) (mvT hZ (hw _ (List.mem_of_getElem? (i := 56) rfl))) (mvT hZ (hw _ (List.mem_of_getElem? (i := 55) rfl))) (by decide) (backOf (W := 0) (rm8_7 l Z a0 hw [] b1_0 w_RELEASE p1 p2 T3.heap n0 Z4 F7 F8 F9 F10 F11) hZ (hw _ (List.mem_of_getElem? (i := 57) rfl)) (hw _ (List.mem_of_getElem? (i := 7) rfl)) (by decide) (by decide)) q6a q6c (g := (mkF m 36 #[.val (.int p0), .val (.int p1), .val (.long p2), .second, .val (.long p3), .second, .val (.long p4), .second, .val (.long p5), .second, .val (.long (p5 &&& (9223372036854775807 : Int64))), .second, .val (.ref b1_0), .val (.ref b3_0)] [(.ref b1_0), (.ref b1_0)])) rfl (by rw [hml]; rfl) (Steps.refl _) (argsL := [(.ref b1_0)]) (rest := []) (lenOf pd__Ljava_lang_Object__Z rfl) rfl (by show 2 * 0 + _ ≤ _; exact Nat.le_of_eq rfl) (hb hby at_36) (fun _ _ => ⟨rfl, e5, (by decide : 2 + 0 ≤ _), (by decide : 9 + 0 ≤ _)⟩)
  dsimp only [Pt.U, Pt.locs, Pt.cells, Pt.slots] at X6 l6 y6 z6 st6 hQ6
  subst l6 y6 z6
  obtain ⟨rfl, N6q, e6⟩ := hQ6
  have N6 := Fr.app N5 N6q
  refine own_tr st6 ?_
  show own_Fin p e below _ (T6.setTop (mkF m 39 #[.val (.int p0), .val (.int p1), .val (.long p2), .second, .val (.long p3), .second, .val (.long p4), .second, .val (.long p5), .second, .val (.long (p5 &&& (9223372036854775807 : Int64))), .second, .val (.ref b1_0), .val (.ref b3_0)] [(.int (1 : Int32))]))
  refine own_st (fun t k => XS.ifNo X6.here hx rfl (hb hby at_39) rfl (by decide) k) ?_
  show own_Fin p e below _ (T6.setTop (mkF m 42 #[.val (.int p0), .val (.int p1), .val (.long p2), .second, .val (.long p3), .second, .val (.long p4), .second, .val (.long p5), .second, .val (.long (p5 &&& (9223372036854775807 : Int64))), .second, .val (.ref b1_0), .val (.ref b3_0)] []))
  refine own_st (fun t k => XS.aload X6.here hx rfl (hb hby at_42) rfl rfl k) ?_
  show own_Fin p e below _ (T6.setTop (mkF m 44 #[.val (.int p0), .val (.int p1), .val (.long p2), .second, .val (.long p3), .second, .val (.long p4), .second, .val (.long p5), .second, .val (.long (p5 &&& (9223372036854775807 : Int64))), .second, .val (.ref b1_0), .val (.ref b3_0)] [(.ref b3_0)]))
  obtain ⟨cq12, kq12, q12a, q12b, q12c⟩ := isOf hZ e6 G3_0
  obtain ⟨_, _, ⟨T12, L12, k12, n12⟩, -, X12, ⟨Lc12, hQ12, l12, y12, z12⟩, st12⟩ := X6.virtualBack hx (y := (⟨"com/example/deioces/deioces/Datagram", "sent", "()J"⟩ : MethodName)) (z := (⟨"com/example/deioces/deioces/Datagram", "sent", "()J"⟩ : MethodName)) hown (mvT hZ (hw _ (List.mem_of_getElem? (i := 59) rfl))) (mvT hZ (hw _ (List.mem_of_getElem? (i := 60) rfl))) (notFace_of_selects (args := #[]) (mvT hZ (hw _ (List.mem_of_getElem? (i := 62) rfl)))) (mvT hZ (hw _ (List.mem_of_getElem? (i := 62) rfl))) (mvT hZ (hw _ (List.mem_of_getElem? (i := 61) rfl))) (by decide) (backOf (W := 0) (rm9_8 l Z a0 hw [] b3_0 p3 T3.heap n0 Z4 G3_2) hZ (hw _ (List.mem_of_getElem? (i := 63) rfl)) (hw _ (List.mem_of_getElem? (i := 30) rfl)) (by decide) (by decide)) q12a q12c (g := (mkF m 44 #[.val (.int p0), .val (.int p1), .val (.long p2), .second, .val (.long p3), .second, .val (.long p4), .second, .val (.long p5), .second, .val (.long (p5 &&& (9223372036854775807 : Int64))), .second, .val (.ref b1_0), .val (.ref b3_0)] [(.ref b3_0)])) rfl (by rw [hml]; rfl) (Steps.refl _) (argsL := []) (rest := []) (lenOf pd___J rfl) rfl (by show 2 * 0 + _ ≤ _; exact Nat.le_of_eq rfl) (hb hby at_44) (fun _ _ => ⟨rfl, e6, (by decide : 2 + 0 ≤ _), (by decide : 9 + 0 ≤ _)⟩)
  dsimp only [Pt.U, Pt.locs, Pt.cells, Pt.slots] at X12 l12 y12 z12 st12 hQ12
  subst l12 y12 z12
  obtain ⟨rfl, N12q, e12⟩ := hQ12
  have N12 := Fr.app N6 N12q
  refine own_tr st12 ?_
  show own_Fin p e below _ (T12.setTop (mkF m 47 #[.val (.int p0), .val (.int p1), .val (.long p2), .second, .val (.long p3), .second, .val (.long p4), .second, .val (.long p5), .second, .val (.long (p5 &&& (9223372036854775807 : Int64))), .second, .val (.ref b1_0), .val (.ref b3_0)] [(.long p3)]))
  refine own_st (fun t k => XS.lload X12.here hx rfl (hb hby at_47) rfl k) ?_
  show own_Fin p e below _ (T12.setTop (mkF m 49 #[.val (.int p0), .val (.int p1), .val (.long p2), .second, .val (.long p3), .second, .val (.long p4), .second, .val (.long p5), .second, .val (.long (p5 &&& (9223372036854775807 : Int64))), .second, .val (.ref b1_0), .val (.ref b3_0)] [(.long p3), (.long p3)]))
  refine own_st (fun t k => XS.lcmp X12.here hx rfl (hb hby at_49) rfl k) ?_
  show own_Fin p e below _ (T12.setTop (mkF m 50 #[.val (.int p0), .val (.int p1), .val (.long p2), .second, .val (.long p3), .second, .val (.long p4), .second, .val (.long p5), .second, .val (.long (p5 &&& (9223372036854775807 : Int64))), .second, .val (.ref b1_0), .val (.ref b3_0)] [(.int (lcmpW p3 p3))]))
  refine own_st (fun t k => XS.ifNo X12.here hx rfl (hb hby at_50) rfl ((if0 _ _).trans (teq ((lw_eq p3 p3).2 rfl)).2) k) ?_
  show own_Fin p e below _ (T12.setTop (mkF m 53 #[.val (.int p0), .val (.int p1), .val (.long p2), .second, .val (.long p3), .second, .val (.long p4), .second, .val (.long p5), .second, .val (.long (p5 &&& (9223372036854775807 : Int64))), .second, .val (.ref b1_0), .val (.ref b3_0)] []))
  refine own_st (fun t k => XS.aload X12.here hx rfl (hb hby at_53) rfl rfl k) ?_
  show own_Fin p e below _ (T12.setTop (mkF m 55 #[.val (.int p0), .val (.int p1), .val (.long p2), .second, .val (.long p3), .second, .val (.long p4), .second, .val (.long p5), .second, .val (.long (p5 &&& (9223372036854775807 : Int64))), .second, .val (.ref b1_0), .val (.ref b3_0)] [(.ref b3_0)]))
  obtain ⟨cq13, kq13, q13a, q13b, q13c⟩ := isOf hZ e12 G3_0
  obtain ⟨_, _, ⟨T13, L13, k13, n13⟩, -, X13, ⟨Lc13, hQ13, l13, y13, z13⟩, st13⟩ := X12.virtualBack hx (y := (⟨"com/example/deioces/deioces/Datagram", "echoes", "()Z"⟩ : MethodName)) (z := (⟨"com/example/deioces/deioces/Datagram", "echoes", "()Z"⟩ : MethodName)) hown (mvT hZ (hw _ (List.mem_of_getElem? (i := 64) rfl))) (mvT hZ (hw _ (List.mem_of_getElem? (i := 65) rfl))) (notFace_of_selects (args := #[]) (mvT hZ (hw _ (List.mem_of_getElem? (i := 67) rfl)))) (mvT hZ (hw _ (List.mem_of_getElem? (i := 67) rfl))) (mvT hZ (hw _ (List.mem_of_getElem? (i := 66) rfl))) (by decide) (backOf (W := 0) (rm10_9 l Z a0 hw [] b3_0 T3.heap n0 Z4 G3_3) hZ (hw _ (List.mem_of_getElem? (i := 68) rfl)) (hw _ (List.mem_of_getElem? (i := 30) rfl)) (by decide) (by decide)) q13a q13c (g := (mkF m 55 #[.val (.int p0), .val (.int p1), .val (.long p2), .second, .val (.long p3), .second, .val (.long p4), .second, .val (.long p5), .second, .val (.long (p5 &&& (9223372036854775807 : Int64))), .second, .val (.ref b1_0), .val (.ref b3_0)] [(.ref b3_0)])) rfl (by rw [hml]; rfl) (Steps.refl _) (argsL := []) (rest := []) (lenOf pd___Z rfl) rfl (by show 2 * 0 + _ ≤ _; exact Nat.le_of_eq rfl) (hb hby at_55) (fun _ _ => ⟨rfl, e12, (by decide : 2 + 0 ≤ _), (by decide : 9 + 0 ≤ _)⟩)
  dsimp only [Pt.U, Pt.locs, Pt.cells, Pt.slots] at X13 l13 y13 z13 st13 hQ13
  subst l13 y13 z13
  obtain ⟨rfl, N13q, e13⟩ := hQ13
  have N13 := Fr.app N12 N13q
  refine own_tr st13 ?_
  show own_Fin p e below _ (T13.setTop (mkF m 58 #[.val (.int p0), .val (.int p1), .val (.long p2), .second, .val (.long p3), .second, .val (.long p4), .second, .val (.long p5), .second, .val (.long (p5 &&& (9223372036854775807 : Int64))), .second, .val (.ref b1_0), .val (.ref b3_0)] [(.int (1 : Int32))]))
  refine own_st (fun t k => XS.ifNo X13.here hx rfl (hb hby at_58) rfl (by decide) k) ?_
  show own_Fin p e below _ (T13.setTop (mkF m 61 #[.val (.int p0), .val (.int p1), .val (.long p2), .second, .val (.long p3), .second, .val (.long p4), .second, .val (.long p5), .second, .val (.long (p5 &&& (9223372036854775807 : Int64))), .second, .val (.ref b1_0), .val (.ref b3_0)] []))
  refine own_st (fun t k => XS.aload X13.here hx rfl (hb hby at_61) rfl rfl k) ?_
  show own_Fin p e below _ (T13.setTop (mkF m 63 #[.val (.int p0), .val (.int p1), .val (.long p2), .second, .val (.long p3), .second, .val (.long p4), .second, .val (.long p5), .second, .val (.long (p5 &&& (9223372036854775807 : Int64))), .second, .val (.ref b1_0), .val (.ref b3_0)] [(.ref b3_0)]))
  obtain ⟨cq14, kq14, q14a, q14b, q14c⟩ := isOf hZ e13 G3_0
  obtain ⟨_, _, ⟨T14, L14, k14, n14⟩, -, X14, ⟨Lc14, hQ14, l14, y14, z14⟩, st14⟩ := X13.virtualBack hx (y := (⟨"com/example/deioces/deioces/Datagram", "echoed", "()J"⟩ : MethodName)) (z := (⟨"com/example/deioces/deioces/Datagram", "echoed", "()J"⟩ : MethodName)) hown (mvT hZ (hw _ (List.mem_of_getElem? (i := 69) rfl))) (mvT hZ (hw _ (List.mem_of_getElem? (i := 70) rfl))) (notFace_of_selects (args := #[]) (mvT hZ (hw _ (List.mem_of_getElem? (i := 72) rfl)))) (mvT hZ (hw _ (List.mem_of_getElem? (i := 72) rfl))) (mvT hZ (hw _ (List.mem_of_getElem? (i := 71) rfl))) (by decide) (backOf (W := 0) (rm11_10 l Z a0 hw [] b3_0 p4 T3.heap n0 Z4 G3_4) hZ (hw _ (List.mem_of_getElem? (i := 73) rfl)) (hw _ (List.mem_of_getElem? (i := 30) rfl)) (by decide) (by decide)) q14a q14c (g := (mkF m 63 #[.val (.int p0), .val (.int p1), .val (.long p2), .second, .val (.long p3), .second, .val (.long p4), .second, .val (.long p5), .second, .val (.long (p5 &&& (9223372036854775807 : Int64))), .second, .val (.ref b1_0), .val (.ref b3_0)] [(.ref b3_0)])) rfl (by rw [hml]; rfl) (Steps.refl _) (argsL := []) (rest := []) (lenOf pd___J rfl) rfl (by show 2 * 0 + _ ≤ _; exact Nat.le_of_eq rfl) (hb hby at_63) (fun _ _ => ⟨rfl, e13, (by decide : 2 + 0 ≤ _), (by decide : 9 + 0 ≤ _)⟩)
  dsimp only [Pt.U, Pt.locs, Pt.cells, Pt.slots] at X14 l14 y14 z14 st14 hQ14
  subst l14 y14 z14
  obtain ⟨rfl, N14q, e14⟩ := hQ14
  have N14 := Fr.app N13 N14q
  refine own_tr st14 ?_
  show own_Fin p e below _ (T14.setTop (mkF m 66 #[.val (.int p0), .val (.int p1), .val (.long p2), .second, .val (.long p3), .second, .val (.long p4), .second, .val (.long p5), .second, .val (.long (p5 &&& (9223372036854775807 : Int64))), .second, .val (.ref b1_0), .val (.ref b3_0)] [(.long p4)]))
  refine own_st (fun t k => XS.lload X14.here hx rfl (hb hby at_66) rfl k) ?_
  show own_Fin p e below _ (T14.setTop (mkF m 68 #[.val (.int p0), .val (.int p1), .val (.long p2), .second, .val (.long p3), .second, .val (.long p4), .second, .val (.long p5), .second, .val (.long (p5 &&& (9223372036854775807 : Int64))), .second, .val (.ref b1_0), .val (.ref b3_0)] [(.long p4), (.long p4)]))
  refine own_st (fun t k => XS.lcmp X14.here hx rfl (hb hby at_68) rfl k) ?_
  show own_Fin p e below _ (T14.setTop (mkF m 69 #[.val (.int p0), .val (.int p1), .val (.long p2), .second, .val (.long p3), .second, .val (.long p4), .second, .val (.long p5), .second, .val (.long (p5 &&& (9223372036854775807 : Int64))), .second, .val (.ref b1_0), .val (.ref b3_0)] [(.int (lcmpW p4 p4))]))
  refine own_st (fun t k => XS.ifNo X14.here hx rfl (hb hby at_69) rfl ((if0 _ _).trans (teq ((lw_eq p4 p4).2 rfl)).2) k) ?_
  show own_Fin p e below _ (T14.setTop (mkF m 72 #[.val (.int p0), .val (.int p1), .val (.long p2), .second, .val (.long p3), .second, .val (.long p4), .second, .val (.long p5), .second, .val (.long (p5 &&& (9223372036854775807 : Int64))), .second, .val (.ref b1_0), .val (.ref b3_0)] []))
  refine own_st (fun t k => XS.aload X14.here hx rfl (hb hby at_72) rfl rfl k) ?_
  show own_Fin p e below _ (T14.setTop (mkF m 74 #[.val (.int p0), .val (.int p1), .val (.long p2), .second, .val (.long p3), .second, .val (.long p4), .second, .val (.long p5), .second, .val (.long (p5 &&& (9223372036854775807 : Int64))), .second, .val (.ref b1_0), .val (.ref b3_0)] [(.ref b3_0)]))
  obtain ⟨cq15, kq15, q15a, q15b, q15c⟩ := isOf hZ e14 G3_0
  obtain ⟨_, _, ⟨T15, L15, k15, n15⟩, -, X15, ⟨Lc15, hQ15, l15, y15, z15⟩, st15⟩ := X14.virtualBack hx (y := (⟨"com/example/deioces/deioces/Datagram", "held", "()J"⟩ : MethodName)) (z := (⟨"com/example/deioces/deioces/Datagram", "held", "()J"⟩ : MethodName)) hown (mvT hZ (hw _ (List.mem_of_getElem? (i := 74) rfl))) (mvT hZ (hw _ (List.mem_of_getElem? (i := 75) rfl))) (notFace_of_selects (args := #[]) (mvT hZ (hw _ (List.mem_of_getElem? (i := 77) rfl)))) (mvT hZ (hw _ (List.mem_of_getElem? (i := 77) rfl))) (mvT hZ (hw _ (List.mem_of_getElem? (i := 76) rfl))) (by decide) (backOf (W := 0) (rm12_11 l Z a0 hw [] b3_0 (p5 &&& (9223372036854775807 : Int64)) T3.heap n0 Z4 G3_5) hZ (hw _ (List.mem_of_getElem? (i := 78) rfl)) (hw _ (List.mem_of_getElem? (i := 30) rfl)) (by decide) (by decide)) q15a q15c (g := (mkF m 74 #[.val (.int p0), .val (.int p1), .val (.long p2), .second, .val (.long p3), .second, .val (.long p4), .second, .val (.long p5), .second, .val (.long (p5 &&& (9223372036854775807 : Int64))), .second, .val (.ref b1_0), .val (.ref b3_0)] [(.ref b3_0)])) rfl (by rw [hml]; rfl) (Steps.refl _) (argsL := []) (rest := []) (lenOf pd___J rfl) rfl (by show 2 * 0 + _ ≤ _; exact Nat.le_of_eq rfl) (hb hby at_74) (fun _ _ => ⟨rfl, e14, (by decide : 2 + 0 ≤ _), (by decide : 9 + 0 ≤ _)⟩)
  dsimp only [Pt.U, Pt.locs, Pt.cells, Pt.slots] at X15 l15 y15 z15 st15 hQ15
  subst l15 y15 z15
  obtain ⟨rfl, N15q, e15⟩ := hQ15
  have N15 := Fr.app N14 N15q
  refine own_tr st15 ?_
  show own_Fin p e below _ (T15.setTop (mkF m 77 #[.val (.int p0), .val (.int p1), .val (.long p2), .second, .val (.long p3), .second, .val (.long p4), .second, .val (.long p5), .second, .val (.long (p5 &&& (9223372036854775807 : Int64))), .second, .val (.ref b1_0), .val (.ref b3_0)] [(.long (p5 &&& (9223372036854775807 : Int64)))]))
  refine own_st (fun t k => XS.lload X15.here hx rfl (hb hby at_77) rfl k) ?_
  show own_Fin p e below _ (T15.setTop (mkF m 79 #[.val (.int p0), .val (.int p1), .val (.long p2), .second, .val (.long p3), .second, .val (.long p4), .second, .val (.long p5), .second, .val (.long (p5 &&& (9223372036854775807 : Int64))), .second, .val (.ref b1_0), .val (.ref b3_0)] [(.long (p5 &&& (9223372036854775807 : Int64))), (.long (p5 &&& (9223372036854775807 : Int64)))]))
  refine own_st (fun t k => XS.lcmp X15.here hx rfl (hb hby at_79) rfl k) ?_
  show own_Fin p e below _ (T15.setTop (mkF m 80 #[.val (.int p0), .val (.int p1), .val (.long p2), .second, .val (.long p3), .second, .val (.long p4), .second, .val (.long p5), .second, .val (.long (p5 &&& (9223372036854775807 : Int64))), .second, .val (.ref b1_0), .val (.ref b3_0)] [(.int (lcmpW (p5 &&& (9223372036854775807 : Int64)) (p5 &&& (9223372036854775807 : Int64))))]))
  refine own_st (fun t k => XS.ifNo X15.here hx rfl (hb hby at_80) rfl ((if0 _ _).trans (teq ((lw_eq (p5 &&& (9223372036854775807 : Int64)) (p5 &&& (9223372036854775807 : Int64))).2 rfl)).2) k) ?_
  show own_Fin p e below _ (T15.setTop (mkF m 83 #[.val (.int p0), .val (.int p1), .val (.long p2), .second, .val (.long p3), .second, .val (.long p4), .second, .val (.long p5), .second, .val (.long (p5 &&& (9223372036854775807 : Int64))), .second, .val (.ref b1_0), .val (.ref b3_0)] []))
  refine own_st (fun t k => XS.iconst X15.here hx rfl (hb hby at_83) k) ?_
  show own_Fin p e below _ (T15.setTop (mkF m 84 #[.val (.int p0), .val (.int p1), .val (.long p2), .second, .val (.long p3), .second, .val (.long p4), .second, .val (.long p5), .second, .val (.long (p5 &&& (9223372036854775807 : Int64))), .second, .val (.ref b1_0), .val (.ref b3_0)] [(.int (1 : Int32))]))
  refine own_st (fun t k => XS.goto X15.here hx rfl (pc0 := 84) (pc' := 88) rfl (hb hby at_84) (by decide) (by decide) k) ?_
  show own_Fin p e below _ (T15.setTop (mkF m 88 #[.val (.int p0), .val (.int p1), .val (.long p2), .second, .val (.long p3), .second, .val (.long p4), .second, .val (.long p5), .second, .val (.long (p5 &&& (9223372036854775807 : Int64))), .second, .val (.ref b1_0), .val (.ref b3_0)] [(.int (1 : Int32))]))
  obtain ⟨fs, hr, hrun, hended, hW, hsame⟩ := X15.leave (v := some (.int (1 : Int32))) (fun h => by rw [Bd.returns] at h; cases h)
  exact ⟨_, _, retN X15 hx (t := .boolean) Bd.returns (by simp) (hb hby at_88) hr, hrun, hended, _, _, rfl, ⟨rfl, N15⟩, ⟨_, rfl⟩, hW, hsame.mono (by decide) (by decide)⟩
theorem d1_51 : decode method_2_code 51 = .ok (.iload_n 1, 1) := by decide +kernel
theorem d1_52 : decode method_2_code 52 = .ok (.invokestatic 20, 3) := by decide +kernel
theorem d14_0 : decode prog_31_method_5_code 0 = .ok (.new 8, 3) := by decide +kernel
theorem d14_3 : decode prog_31_method_5_code 3 = .ok (.dup, 1) := by decide +kernel
theorem d14_4 : decode prog_31_method_5_code 4 = .ok (.getstatic 39, 3) := by decide +kernel
theorem d14_7 : decode prog_31_method_5_code 7 = .ok (.iload_n 0, 1) := by decide +kernel
theorem d14_8 : decode prog_31_method_5_code 8 = .ok (.lconst 0, 1) := by decide +kernel
theorem d14_9 : decode prog_31_method_5_code 9 = .ok (.iconst 0, 1) := by decide +kernel
theorem d14_10 : decode prog_31_method_5_code 10 = .ok (.invokespecial 30, 3) := by decide +kernel
def Q3_20 (Z : State) (a1 : Addr) (a2 : Addr) (i3 : Int32) (h0 : Heap) (n0 : Nat) (v : Option Value) (h : Heap) (L : List Loc) : Prop := v = none ∧ Fr n0 L ∧ Keep h0 h [a1] ∧ Fld Z h a1 "com/example/deioces/deioces/Message" "kind" "Lcom/example/deioces/deioces/Message$Kind;" (.ref a2) ∧ Fld Z h a1 "com/example/deioces/deioces/Message" "sender" "I" (.int i3) ∧ Fld Z h a1 "com/example/deioces/deioces/Message" "stamp" "J" (.long (0 : Int64)) ∧ Fld Z h a1 "com/example/deioces/deioces/Message" "supportive" "Z" (.int (0 : Int32))
set_option maxRecDepth 65536 in
set_option maxHeartbeats 40000000 in
theorem rm3_20 (l : Launch) (Z : State) (a0 : Array Value) (hw : ∀ d ∈ tables_1, d.before a0 Z = true) (ws : List Jvm.Cond) (a1 : Addr) (a2 : Addr) (i3 : Int32) (h0 : Heap) (n0 : Nat) (Z0 : n0 ≤ Array.size h0) (P0 : Fld Z h0 a1 "com/example/deioces/deioces/Message" "kind" "Lcom/example/deioces/deioces/Message$Kind;" .null) (P1 : Exa Z h0 a1 "com/example/deioces/deioces/Message") (P2 : n0 ≤ a1) (P3 : Fld Z h0 a1 "com/example/deioces/deioces/Message" "sender" "I" (.int (0 : Int32))) (P4 : Fld Z h0 a1 "com/example/deioces/deioces/Message" "stamp" "J" (.long (0 : Int64))) (P5 : Fld Z h0 a1 "com/example/deioces/deioces/Message" "supportive" "Z" (.int (0 : Int32))) :
    MetFree l (⟨"com/example/deioces/deioces/Message", "<init>", "(Lcom/example/deioces/deioces/Message$Kind;IJZ)V"⟩ : MethodName) (head1 (Jvm.Cond.code (⟨"com/example/deioces/deioces/Message", "<init>", "(Lcom/example/deioces/deioces/Message$Kind;IJZ)V"⟩ : MethodName) prog_31_method_1_code 6 none :: ws) ({ frames := 1, cells := 0, slots := 0, locals := 12 } : Room)) (fun a U => a = #[(.ref a1), (.ref a2), (.int i3), (.long (0 : Int64)), (.int (0 : Int32))] ∧ Z.Warmed39 U.vm ∧ U.heap = h0) (fun _ _ _ _ _ => True) (fun _ U o U' => ∃ v L, o = .returned v ∧ Q3_20 Z a1 a2 i3 h0 n0 v U'.heap L ∧ FrameEnd U o U' L ({ frames := 1, cells := 0, slots := 0, locals := 12 } : Room).cells ({ frames := 1, cells := 0, slots := 0, locals := 12 } : Room).slots) := by
  refine MetFree.of_bodySF (plainFor_of_name pn_com_example_deioces_deioces_Message) hisR ?_
  intro p e s m args below meth c s₁ Bd hml0 hP hK
  obtain ⟨rfl, hZ, hh⟩ := hP
  have hx := Bd.exec
  have hby := Bd.bytes
  have hml : c.maxLocals = 6 := hml0
  have hown : s.vm.findClass "com/example/deioces/deioces/Message" = some m.cls := findClass_of_methodNamed Bd.named
  have hnm := (name_of_methodNamed Bd.named Bd.method).1
  have X0 : Stand p l e ({ frames := 1, cells := 0, slots := 0, locals := 12 } : Room) s m #[(.ref a1), (.ref a2), (.int i3), (.long (0 : Int64)), (.int (0 : Int32))] below meth c s₁ [] 0 0 := Stand.of_body Bd
  have e0 : s₁.heap = h0 := by rw [← hh, Bd.state]; rfl
  have N0 := Fr.nil n0
  refine (?_ : own_Fin p e below _ _)
  refine own_st (fun t k => castTop (ef_3_RRIJI m a1 a2 i3 (0 : Int64) (0 : Int32)) k) ?_
  show own_Fin p e below _ (s₁.setTop (mkF m 0 #[.val (.ref a1), .val (.ref a2), .val (.int i3), .val (.long (0 : Int64)), .second, .val (.int (0 : Int32))] []))
  refine own_st (fun t k => XS.aloadN X0.here hx rfl (hb hby d3_0) rfl rfl k) ?_
  show own_Fin p e below _ (s₁.setTop (mkF m 1 #[.val (.ref a1), .val (.ref a2), .val (.int i3), .val (.long (0 : Int64)), .second, .val (.int (0 : Int32))] [(.ref a1)]))
  obtain ⟨T1, X1, e1, st1⟩ := initO X0 hx hZ hown (hw _ (List.mem_of_getElem? (i := 17) rfl)) (hw _ (List.mem_of_getElem? (i := 18) rfl)) (hw _ (List.mem_of_getElem? (i := 19) rfl)) e0 (g := (mkF m 1 #[.val (.ref a1), .val (.ref a2), .val (.int i3), .val (.long (0 : Int64)), .second, .val (.int (0 : Int32))] [(.ref a1)])) rfl (by rw [hml]; rfl) rfl (hb hby d3_1) (by decide) (W := 0) (by show 2 * 0 + _ ≤ _; exact Nat.le_of_eq rfl) (by decide)
  refine own_st st1 ?_
  show own_Fin p e below _ (T1.setTop (mkF m 4 #[.val (.ref a1), .val (.ref a2), .val (.int i3), .val (.long (0 : Int64)), .second, .val (.int (0 : Int32))] []))
  refine own_st (fun t k => XS.aloadN X1.here hx rfl (hb hby d3_4) rfl rfl k) ?_
  show own_Fin p e below _ (T1.setTop (mkF m 5 #[.val (.ref a1), .val (.ref a2), .val (.int i3), .val (.long (0 : Int64)), .second, .val (.int (0 : Int32))] [(.ref a1)]))
  refine own_st (fun t k => XS.aloadN X1.here hx rfl (hb hby d3_5) rfl rfl k) ?_
  show own_Fin p e below _ (T1.setTop (mkF m 6 #[.val (.ref a1), .val (.ref a2), .val (.int i3), .val (.long (0 : Int64)), .second, .val (.int (0 : Int32))] [(.ref a2), (.ref a1)]))
  obtain ⟨T2, h2, X2, e2, W2, st2⟩ := putF X1 hx hZ hown (host := "") (Or.inl (hw _ (List.mem_of_getElem? (i := 20) rfl))) Via.refl e1 P0 P1 (Or.inr ⟨(hw _ (List.mem_of_getElem? (i := 21) rfl)), rfl, hnm⟩) (hw _ (List.mem_of_getElem? (i := 10) rfl)) (ty := (.object "com/example/deioces/deioces/Message$Kind")) (by decide) rfl rfl (g := (mkF m 6 #[.val (.ref a1), .val (.ref a2), .val (.int i3), .val (.long (0 : Int64)), .second, .val (.int (0 : Int32))] [(.ref a2), (.ref a1)])) rfl rfl (hb hby d3_6)
  have F2 : Fld Z h2 a1 "com/example/deioces/deioces/Message" "kind" "Lcom/example/deioces/deioces/Message$Kind;" (.ref a2) := P0.same W2
  have N2 := Fr.snoc X2 N0 P2
  have Z3 : n0 ≤ Array.size h2 := Nat.le_trans Z0 (Keep.of_wr W2).1
  have KC3 : Keep h0 h2 [a1] := (Keep.refl h0 [a1]).wr W2 (Or.inl (List.mem_of_getElem? (i := 0) rfl))
  refine own_st st2 ?_
  show own_Fin p e below _ (T2.setTop (mkF m 9 #[.val (.ref a1), .val (.ref a2), .val (.int i3), .val (.long (0 : Int64)), .second, .val (.int (0 : Int32))] []))
  refine own_st (fun t k => XS.aloadN X2.here hx rfl (hb hby d3_9) rfl rfl k) ?_
  show own_Fin p e below _ (T2.setTop (mkF m 10 #[.val (.ref a1), .val (.ref a2), .val (.int i3), .val (.long (0 : Int64)), .second, .val (.int (0 : Int32))] [(.ref a1)]))
  refine own_st (fun t k => XS.iloadN X2.here hx rfl (hb hby d3_10) rfl k) ?_
  show own_Fin p e below _ (T2.setTop (mkF m 11 #[.val (.ref a1), .val (.ref a2), .val (.int i3), .val (.long (0 : Int64)), .second, .val (.int (0 : Int32))] [(.int i3), (.ref a1)]))
  have F4 : Fld Z h2 a1 "com/example/deioces/deioces/Message" "sender" "I" (.int (0 : Int32)) := (P3.other W2 (Or.inr (slot_ne (Or.inr (hw _ (List.mem_of_getElem? (i := 23) rfl))) (Or.inr (hw _ (List.mem_of_getElem? (i := 21) rfl))) (by decide) (t := .int) (t' := (.object "com/example/deioces/deioces/Message$Kind")) (by decide) (by decide))))
  have F5 : Exa Z h2 a1 "com/example/deioces/deioces/Message" := (P1.wr W2)
  obtain ⟨T6, h6, X6, e6, W6, st6⟩ := putF X2 hx hZ hown (host := "") (Or.inl (hw _ (List.mem_of_getElem? (i := 22) rfl))) Via.refl e2 F4 F5 (Or.inr ⟨(hw _ (List.mem_of_getElem? (i := 23) rfl)), rfl, hnm⟩) (hw _ (List.mem_of_getElem? (i := 10) rfl)) (ty := .int) (by decide) rfl rfl (g := (mkF m 11 #[.val (.ref a1), .val (.ref a2), .val (.int i3), .val (.long (0 : Int64)), .second, .val (.int (0 : Int32))] [(.int i3), (.ref a1)])) rfl rfl (hb hby d3_11)
  have F6 : Fld Z h6 a1 "com/example/deioces/deioces/Message" "sender" "I" (.int i3) := F4.same W6
  have N6 := Fr.snoc X6 N2 P2
  have Z7 : n0 ≤ Array.size h6 := Nat.le_trans Z3 (Keep.of_wr W6).1
  have KC7 : Keep h0 h6 [a1] := KC3.wr W6 (Or.inl (List.mem_of_getElem? (i := 0) rfl))
  refine own_st st6 ?_
  show own_Fin p e below _ (T6.setTop (mkF m 14 #[.val (.ref a1), .val (.ref a2), .val (.int i3), .val (.long (0 : Int64)), .second, .val (.int (0 : Int32))] []))
  refine own_st (fun t k => XS.aloadN X6.here hx rfl (hb hby d3_14) rfl rfl k) ?_
  show own_Fin p e below _ (T6.setTop (mkF m 15 #[.val (.ref a1), .val (.ref a2), .val (.int i3), .val (.long (0 : Int64)), .second, .val (.int (0 : Int32))] [(.ref a1)]))
  refine own_st (fun t k => XS.lloadN X6.here hx rfl (hb hby d3_15) rfl k) ?_
  show own_Fin p e below _ (T6.setTop (mkF m 16 #[.val (.ref a1), .val (.ref a2), .val (.int i3), .val (.long (0 : Int64)), .second, .val (.int (0 : Int32))] [(.long (0 : Int64)), (.ref a1)]))
  have F8 : Fld Z h6 a1 "com/example/deioces/deioces/Message" "stamp" "J" (.long (0 : Int64)) := ((P4.other W2 (Or.inr (slot_ne (Or.inr (hw _ (List.mem_of_getElem? (i := 25) rfl))) (Or.inr (hw _ (List.mem_of_getElem? (i := 21) rfl))) (by decide) (t := .long) (t' := (.object "com/example/deioces/deioces/Message$Kind")) (by decide) (by decide)))).other W6 (Or.inr (slot_ne (Or.inr (hw _ (List.mem_of_getElem? (i := 25) rfl))) (Or.inr (hw _ (List.mem_of_getElem? (i := 23) rfl))) (by decide) (t := .long) (t' := .int) (by decide) (by decide))))
  have F9 : Exa Z h6 a1 "com/example/deioces/deioces/Message" := (F5.wr W6)
  obtain ⟨T10, h10, X10, e10, W10, st10⟩ := putF X6 hx hZ hown (host := "") (Or.inl (hw _ (List.mem_of_getElem? (i := 24) rfl))) Via.refl e6 F8 F9 (Or.inr ⟨(hw _ (List.mem_of_getElem? (i := 25) rfl)), rfl, hnm⟩) (hw _ (List.mem_of_getElem? (i := 10) rfl)) (ty := .long) (by decide) rfl rfl (g := (mkF m 16 #[.val (.ref a1), .val (.ref a2), .val (.int i3), .val (.long (0 : Int64)), .second, .val (.int (0 : Int32))] [(.long (0 : Int64)), (.ref a1)])) rfl rfl (hb hby d3_16)
  have F10 : Fld Z h10 a1 "com/example/deioces/deioces/Message" "stamp" "J" (.long (0 : Int64)) := F8.same W10
  have N10 := Fr.snoc X10 N6 P2
  have Z11 : n0 ≤ Array.size h10 := Nat.le_trans Z7 (Keep.of_wr W10).1
  have KC11 : Keep h0 h10 [a1] := KC7.wr W10 (Or.inl (List.mem_of_getElem? (i := 0) rfl))
  refine own_st st10 ?_
  show own_Fin p e below _ (T10.setTop (mkF m 19 #[.val (.ref a1), .val (.ref a2), .val (.int i3), .val (.long (0 : Int64)), .second, .val (.int (0 : Int32))] []))
  refine own_st (fun t k => XS.aloadN X10.here hx rfl (hb hby d3_19) rfl rfl k) ?_
  show own_Fin p e below _ (T10.setTop (mkF m 20 #[.val (.ref a1), .val (.ref a2), .val (.int i3), .val (.long (0 : Int64)), .second, .val (.int (0 : Int32))] [(.ref a1)]))
  refine own_st (fun t k => XS.iload X10.here hx rfl (hb hby d3_20) rfl k) ?_
  show own_Fin p e below _ (T10.setTop (mkF m 22 #[.val (.ref a1), .val (.ref a2), .val (.int i3), .val (.long (0 : Int64)), .second, .val (.int (0 : Int32))] [(.int (0 : Int32)), (.ref a1)]))
  have F12 : Fld Z h10 a1 "com/example/deioces/deioces/Message" "supportive" "Z" (.int (0 : Int32)) := (((P5.other W2 (Or.inr (slot_ne (Or.inr (hw _ (List.mem_of_getElem? (i := 27) rfl))) (Or.inr (hw _ (List.mem_of_getElem? (i := 21) rfl))) (by decide) (t := .boolean) (t' := (.object "com/example/deioces/deioces/Message$Kind")) (by decide) (by decide)))).other W6 (Or.inr (slot_ne (Or.inr (hw _ (List.mem_of_getElem? (i := 27) rfl))) (Or.inr (hw _ (List.mem_of_getElem? (i := 23) rfl))) (by decide) (t := .boolean) (t' := .int) (by decide) (by decide)))).other W10 (Or.inr (slot_ne (Or.inr (hw _ (List.mem_of_getElem? (i := 27) rfl))) (Or.inr (hw _ (List.mem_of_getElem? (i := 25) rfl))) (by decide) (t := .boolean) (t' := .long) (by decide) (by decide))))
  have F13 : Exa Z h10 a1 "com/example/deioces/deioces/Message" := (F9.wr W10)
  obtain ⟨T14, h14, X14, e14, W14, st14⟩ := putF X10 hx hZ hown (host := "") (Or.inl (hw _ (List.mem_of_getElem? (i := 26) rfl))) Via.refl e10 F12 F13 (Or.inr ⟨(hw _ (List.mem_of_getElem? (i := 27) rfl)), rfl, hnm⟩) (hw _ (List.mem_of_getElem? (i := 10) rfl)) (ty := .boolean) (by decide) rfl rfl (g := (mkF m 22 #[.val (.ref a1), .val (.ref a2), .val (.int i3), .val (.long (0 : Int64)), .second, .val (.int (0 : Int32))] [(.int (0 : Int32)), (.ref a1)])) rfl rfl (hb hby d3_22)
  have F14 : Fld Z h14 a1 "com/example/deioces/deioces/Message" "supportive" "Z" (.int (0 : Int32)) := F12.same W14
  have N14 := Fr.snoc X14 N10 P2
  have Z15 : n0 ≤ Array.size h14 := Nat.le_trans Z11 (Keep.of_wr W14).1
  have KC15 : Keep h0 h14 [a1] := KC11.wr W14 (Or.inl (List.mem_of_getElem? (i := 0) rfl))
  refine own_st st14 ?_
  show own_Fin p e below _ (T14.setTop (mkF m 25 #[.val (.ref a1), .val (.ref a2), .val (.int i3), .val (.long (0 : Int64)), .second, .val (.int (0 : Int32))] []))
  have F16 : Fld Z h14 a1 "com/example/deioces/deioces/Message" "kind" "Lcom/example/deioces/deioces/Message$Kind;" (.ref a2) := (((F2.other W6 (Or.inr (slot_ne (Or.inr (hw _ (List.mem_of_getElem? (i := 21) rfl))) (Or.inr (hw _ (List.mem_of_getElem? (i := 23) rfl))) (by decide) (t := (.object "com/example/deioces/deioces/Message$Kind")) (t' := .int) (by decide) (by decide)))).other W10 (Or.inr (slot_ne (Or.inr (hw _ (List.mem_of_getElem? (i := 21) rfl))) (Or.inr (hw _ (List.mem_of_getElem? (i := 25) rfl))) (by decide) (t := (.object "com/example/deioces/deioces/Message$Kind")) (t' := .long) (by decide) (by decide)))).other W14 (Or.inr (slot_ne (Or.inr (hw _ (List.mem_of_getElem? (i := 21) rfl))) (Or.inr (hw _ (List.mem_of_getElem? (i := 27) rfl))) (by decide) (t := (.object "com/example/deioces/deioces/Message$Kind")) (t' := .boolean) (by decide) (by decide))))
  have F17 : Fld Z h14 a1 "com/example/deioces/deioces/Message" "sender" "I" (.int i3) := ((F6.other W10 (Or.inr (slot_ne (Or.inr (hw _ (List.mem_of_getElem? (i := 23) rfl))) (Or.inr (hw _ (List.mem_of_getElem? (i := 25) rfl))) (by decide) (t := .int) (t' := .long) (by decide) (by decide)))).other W14 (Or.inr (slot_ne (Or.inr (hw _ (List.mem_of_getElem? (i := 23) rfl))) (Or.inr (hw _ (List.mem_of_getElem? (i := 27) rfl))) (by decide) (t := .int) (t' := .boolean) (by decide) (by decide))))
  have F18 : Fld Z h14 a1 "com/example/deioces/deioces/Message" "stamp" "J" (.long (0 : Int64)) := (F10.other W14 (Or.inr (slot_ne (Or.inr (hw _ (List.mem_of_getElem? (i := 25) rfl))) (Or.inr (hw _ (List.mem_of_getElem? (i := 27) rfl))) (by decide) (t := .long) (t' := .boolean) (by decide) (by decide))))
  obtain ⟨fs, hr, hrun, hended, hW, hsame⟩ := X14.leave (v := none) (fun _ => rfl)
  have hQf : Q3_20 Z a1 a2 i3 h0 n0 _ h14 _ := ⟨rfl, N14, KC15, F16, F17, F18, F14⟩
  exact ⟨_, _, X14.returnOut hx Bd.returns (hb hby d3_25) hr, hrun, hended, _, _, rfl, (by show Q3_20 Z a1 a2 i3 h0 n0 _ T14.heap _; rw [e14]; exact hQf), ⟨_, rfl⟩, hW, hsame.mono (by decide) (by decide)⟩
theorem d14_13 : decode prog_31_method_5_code 13 = .ok (.areturn, 1) := by decide +kernel
theorem ef_14_I (m : MethodId) (x0 : Int32) : entryFrame m #[(.int x0)] 1 = mkF m 0 #[.val (.int x0)] [] := by first | (simp [entryFrame, mkF, argsToLocals, Value.category]; done) | rfl
def Q14_21 (Z : State) (i1 : Int32) (a2 : Addr) (h0 : Heap) (n0 : Nat) (v : Option Value) (h : Heap) (L : List Loc) : Prop := ∃ b1 : Addr, v = some (.ref b1) ∧ Fr n0 L ∧ Keep h0 h [] ∧ Array.size h0 ≤ b1 ∧ Exa Z h b1 "com/example/deioces/deioces/Message" ∧ Fld Z h b1 "com/example/deioces/deioces/Message" "kind" "Lcom/example/deioces/deioces/Message$Kind;" (.ref a2) ∧ Fld Z h b1 "com/example/deioces/deioces/Message" "sender" "I" (.int i1) ∧ Fld Z h b1 "com/example/deioces/deioces/Message" "stamp" "J" (.long (0 : Int64)) ∧ Fld Z h b1 "com/example/deioces/deioces/Message" "supportive" "Z" (.int (0 : Int32))
set_option maxRecDepth 65536 in
set_option maxHeartbeats 40000000 in
theorem rm14_21 (l : Launch) (Z : State) (a0 : Array Value) (hw : ∀ d ∈ tables_1, d.before a0 Z = true) (ws : List Jvm.Cond) (i1 : Int32) (a2 : Addr) (h0 : Heap) (n0 : Nat) (Z0 : n0 ≤ Array.size h0) (P0 : Sta Z h0 "com/example/deioces/deioces/Message$Kind" "HEARTBEAT" "Lcom/example/deioces/deioces/Message$Kind;" (.ref a2)) :
    MetFree l (⟨"com/example/deioces/deioces/Message", "heartbeat", "(I)Lcom/example/deioces/deioces/Message;"⟩ : MethodName) (head1 (Jvm.Cond.code (⟨"com/example/deioces/deioces/Message", "heartbeat", "(I)Lcom/example/deioces/deioces/Message;"⟩ : MethodName) prog_31_method_5_code 1 (some (.object "com/example/deioces/deioces/Message")) :: ws) ({ frames := 2, cells := 1, slots := 4, locals := 30 } : Room)) (fun a U => a = #[(.int i1)] ∧ Z.Warmed39 U.vm ∧ U.heap = h0) (fun _ _ _ _ _ => True) (fun _ U o U' => ∃ v L, o = .returned v ∧ Q14_21 Z i1 a2 h0 n0 v U'.heap L ∧ FrameEnd U o U' L ({ frames := 2, cells := 1, slots := 4, locals := 30 } : Room).cells ({ frames := 2, cells := 1, slots := 4, locals := 30 } : Room).slots) := by
  refine MetFree.of_bodySF (plainFor_of_name pn_com_example_deioces_deioces_Message) hisR ?_
  intro p e s m args below meth c s₁ Bd hml0 hP hK
  obtain ⟨rfl, hZ, hh⟩ := hP
  have hx := Bd.exec
  have hby := Bd.bytes
  have hml : c.maxLocals = 1 := hml0
  have hown : s.vm.findClass "com/example/deioces/deioces/Message" = some m.cls := findClass_of_methodNamed Bd.named
  have hnm := (name_of_methodNamed Bd.named Bd.method).1
  have X0 : Stand p l e ({ frames := 2, cells := 1, slots := 4, locals := 30 } : Room) s m #[(.int i1)] below meth c s₁ [] 0 0 := Stand.of_body Bd
  have e0 : s₁.heap = h0 := by rw [← hh, Bd.state]; rfl
  have N0 := Fr.nil n0
  refine (?_ : own_Fin p e below _ _)
  refine own_st (fun t k => castTop (ef_14_I m i1) k) ?_
  show own_Fin p e below _ (s₁.setTop (mkF m 0 #[.val (.int i1)] []))
  obtain ⟨T1, h1, X1, e1, E1, A1, D1, -, st1⟩ := newO X0 hx hZ hown (hw _ (List.mem_of_getElem? (i := 9) rfl)) (hw _ (List.mem_of_getElem? (i := 10) rfl)) (hw _ (List.mem_of_getElem? (i := 7) rfl)) e0 (g := (mkF m 0 #[.val (.int i1)] [])) rfl (hb hby d14_0) (by decide) (by decide)
  obtain ⟨b1, g1⟩ : ∃ z, z = Array.size h0 := ⟨_, rfl⟩
  rw [show Array.size h0 = b1 from g1.symm] at A1 D1 st1
  have le_b1 : Array.size h0 ≤ b1 := Nat.le_of_eq g1.symm
  have sz_b1 : h0.size ≤ b1 := Nat.le_trans (Keep.refl h0 []).1 le_b1
  have g_b1 : n0 ≤ b1 := Nat.le_trans Z0 sz_b1
  have Z2 : n0 ≤ Array.size h1 := Nat.le_trans Z0 E1.1
  have KC2 : Keep h0 h1 [] := (Keep.refl h0 []).ext E1
  have F1_21 : Fld Z h1 b1 "com/example/deioces/deioces/Message" "kind" "Lcom/example/deioces/deioces/Message$Kind;" .null := D1 (Or.inr (hw _ (List.mem_of_getElem? (i := 21) rfl))) (ty := (.object "com/example/deioces/deioces/Message$Kind")) (by decide)
  have F1_23 : Fld Z h1 b1 "com/example/deioces/deioces/Message" "sender" "I" (.int (0 : Int32)) := D1 (Or.inr (hw _ (List.mem_of_getElem? (i := 23) rfl))) (ty := .int) (by decide)
  have F1_25 : Fld Z h1 b1 "com/example/deioces/deioces/Message" "stamp" "J" (.long (0 : Int64)) := D1 (Or.inr (hw _ (List.mem_of_getElem? (i := 25) rfl))) (ty := .long) (by decide)
  have F1_27 : Fld Z h1 b1 "com/example/deioces/deioces/Message" "supportive" "Z" (.int (0 : Int32)) := D1 (Or.inr (hw _ (List.mem_of_getElem? (i := 27) rfl))) (ty := .boolean) (by decide)
  refine own_st st1 ?_
  show own_Fin p e below _ (T1.setTop (mkF m 3 #[.val (.int i1)] [(.ref b1)]))
  refine own_st (fun t k => XS.dup X1.here hx rfl (hb hby d14_3) rfl rfl k) ?_
  show own_Fin p e below _ (T1.setTop (mkF m 4 #[.val (.int i1)] [(.ref b1), (.ref b1)]))
  have F3 : Sta Z h1 "com/example/deioces/deioces/Message$Kind" "HEARTBEAT" "Lcom/example/deioces/deioces/Message$Kind;" (.ref a2) := (P0.ext E1)
  obtain ⟨T4, X4, e4, st4⟩ := getS2 X1 hx hZ hown (host := "") (Or.inl (hw _ (List.mem_of_getElem? (i := 87) rfl))) Via.refl e1 F3 (g := (mkF m 4 #[.val (.int i1)] [(.ref b1), (.ref b1)])) rfl (hb hby d14_4)
  refine own_st st4 ?_
  show own_Fin p e below _ (T4.setTop (mkF m 7 #[.val (.int i1)] [(.ref a2), (.ref b1), (.ref b1)]))
  refine own_st (fun t k => XS.iloadN X4.here hx rfl (hb hby d14_7) rfl k) ?_
  show own_Fin p e below _ (T4.setTop (mkF m 8 #[.val (.int i1)] [(.int i1), (.ref a2), (.ref b1), (.ref b1)]))
  refine own_st (fun t k => XS.lconst X4.here hx rfl (hb hby d14_8) k) ?_
  show own_Fin p e below _ (T4.setTop (mkF m 9 #[.val (.int i1)] [(.long (0 : Int64)), (.int i1), (.ref a2), (.ref b1), (.ref b1)]))
  refine own_st (fun t k => XS.iconst X4.here hx rfl (hb hby d14_9) k) ?_
  show own_Fin p e below _ (T4.setTop (mkF m 10 #[.val (.int i1)] [(.int (0 : Int32)), (.long (0 : Int64)), (.int i1), (.ref a2), (.ref b1), (.ref b1)]))
  obtain ⟨_, _, ⟨T5, L5, k5, n5⟩, -, X5, ⟨Lc5, hQ5, l5, y5, z5⟩, st5⟩ := X4.specialBack hx (y := (⟨"com/example/deioces/deioces/Message", "<init>", "(Lcom/example/deioces/deioces/Message$Kind;IJZ)V"⟩ : MethodName)) rfl hown (mvT hZ (hw _ (List.mem_of_getElem? (i := 14) rfl))) (mvT hZ (hw _ (List.mem_of_getElem? (i := 15) rfl))) (mvT hZ (hw _ (List.mem_of_getElem? (i := 16) rfl))) (by decide) (backOf (W := 1) (rm3_20 l Z a0 hw [] b1 a2 i1 h1 n0 Z2 F1_21 A1 g_b1 F1_23 F1_25 F1_27) hZ (hw _ (List.mem_of_getElem? (i := 16) rfl)) (hw _ (List.mem_of_getElem? (i := 7) rfl)) (by decide) (by decide)) (g := (mkF m 10 #[.val (.int i1)] [(.int (0 : Int32)), (.long (0 : Int64)), (.int i1), (.ref a2), (.ref b1), (.ref b1)])) rfl (by rw [hml]; rfl) (Steps.refl _) (a := b1) (argsL := [(.ref a2), (.int i1), (.long (0 : Int64)), (.int (0 : Int32))]) (rest := [(.ref b1)]) (lenOf pd__Lcom_example_deioces_deioces_Message_Kind_IJZ_V rfl) rfl (by show 2 * 0 + _ ≤ _; exact Nat.le_of_eq rfl) (hb hby d14_10) (fun _ _ => ⟨rfl, e4, (by decide : 1 + 0 ≤ _), (by decide : 4 + 0 ≤ _)⟩)
  dsimp only [Pt.U, Pt.locs, Pt.cells, Pt.slots] at X5 l5 y5 z5 st5 hQ5
  subst l5 y5 z5
  obtain ⟨rfl, N5q, K5q, G5_0, G5_1, G5_2, G5_3⟩ := hQ5
  have Z6 : n0 ≤ Array.size T5.heap := Nat.le_trans Z2 K5q.1
  have KC6 : Keep h0 T5.heap [] := KC2.trans K5q (allS (Or.inr sz_b1) all0)
  have N5 := Fr.app N0 N5q
  refine own_tr st5 ?_
  show own_Fin p e below _ (T5.setTop (mkF m 13 #[.val (.int i1)] [(.ref b1)]))
  have F7 : Exa Z T5.heap b1 "com/example/deioces/deioces/Message" := (A1.keep K5q)
  obtain ⟨fs, hr, hrun, hended, hW, hsame⟩ := X5.leave (v := some (.ref b1)) (fun h => by rw [Bd.returns] at h; cases h)
  have hQf : Q14_21 Z i1 a2 h0 n0 _ T5.heap _ := ⟨b1, rfl, N5, KC6, sz_b1, F7, G5_0, G5_1, G5_2, G5_3⟩
  exact ⟨_, _, retOut X5 hx (t := (.object "com/example/deioces/deioces/Message")) Bd.returns rfl (Or.inr (Or.inr (Or.inr (Or.inr ⟨rfl, rfl, rfl⟩)))) (hb hby d14_13) hr, hrun, hended, _, _, rfl, hQf, ⟨_, rfl⟩, hW, hsame.mono (by decide) (by decide)⟩
theorem pd__I_Lcom_example_deioces_deioces_Message_ : parseMethodDescriptor "(I)Lcom/example/deioces/deioces/Message;" = some ⟨[.int], some (.object "com/example/deioces/deioces/Message")⟩ := by decide +kernel
theorem d1_55 : decode method_2_code 55 = .ok (.areturn, 1) := by decide +kernel
def Q1_22 (Z : State) (i1 : Int32) (i2 : Int32) (j3 : Int64) (a4 : Addr) (h0 : Heap) (n0 : Nat) (v : Option Value) (h : Heap) (L : List Loc) : Prop := ∃ b1_0 : Addr, v = some (.ref b1_0) ∧ Fr n0 L ∧ Keep h0 h [] ∧ Array.size h0 ≤ b1_0 ∧ Exa Z h b1_0 "com/example/deioces/deioces/Message" ∧ Fld Z h b1_0 "com/example/deioces/deioces/Message" "kind" "Lcom/example/deioces/deioces/Message$Kind;" (.ref a4) ∧ Fld Z h b1_0 "com/example/deioces/deioces/Message" "sender" "I" (.int i2) ∧ Fld Z h b1_0 "com/example/deioces/deioces/Message" "stamp" "J" (.long (0 : Int64)) ∧ Fld Z h b1_0 "com/example/deioces/deioces/Message" "supportive" "Z" (.int (0 : Int32))
set_option maxRecDepth 65536 in
set_option maxHeartbeats 40000000 in
theorem rm1_22 (l : Launch) (Z : State) (a0 : Array Value) (hw : ∀ d ∈ tables_1, d.before a0 Z = true) (ws : List Jvm.Cond) (i1 : Int32) (i2 : Int32) (j3 : Int64) (a4 : Addr) (h0 : Heap) (n0 : Nat) (Z0 : n0 ≤ Array.size h0) (P0 : (i1 &&& (3 : Int32)) = (3 : Int32)) (P1 : Sta Z h0 "com/example/deioces/deioces/Message$Kind" "HEARTBEAT" "Lcom/example/deioces/deioces/Message$Kind;" (.ref a4)) :
    MetFree l (⟨"com/example/deioces/deioces/DatagramEchoingPinLaw", "makeMessage", "(IIJ)Lcom/example/deioces/deioces/Message;"⟩ : MethodName) (head1 (Jvm.Cond.code (⟨"com/example/deioces/deioces/DatagramEchoingPinLaw", "makeMessage", "(IIJ)Lcom/example/deioces/deioces/Message;"⟩ : MethodName) method_2_code 5 (some (.object "com/example/deioces/deioces/Message")) :: ws) ({ frames := 3, cells := 1, slots := 4, locals := 42 } : Room)) (fun a U => a = #[(.int i1), (.int i2), (.long j3)] ∧ Z.Warmed39 U.vm ∧ U.heap = h0) (fun _ _ _ _ _ => True) (fun _ U o U' => ∃ v L, o = .returned v ∧ Q1_22 Z i1 i2 j3 a4 h0 n0 v U'.heap L ∧ FrameEnd U o U' L ({ frames := 3, cells := 1, slots := 4, locals := 42 } : Room).cells ({ frames := 3, cells := 1, slots := 4, locals := 42 } : Room).slots) := by
  refine MetFree.of_bodySF (plainFor_of_name pn_com_example_deioces_deioces_DatagramEchoingPinLaw) hisR ?_
  intro p e s m args below meth c s₁ Bd hml0 hP hK
  obtain ⟨rfl, hZ, hh⟩ := hP
  have hx := Bd.exec
  have hby := Bd.bytes
  have hml : c.maxLocals = 5 := hml0
  have hown : s.vm.findClass "com/example/deioces/deioces/DatagramEchoingPinLaw" = some m.cls := findClass_of_methodNamed Bd.named
  have hnm := (name_of_methodNamed Bd.named Bd.method).1
  have X0 : Stand p l e ({ frames := 3, cells := 1, slots := 4, locals := 42 } : Room) s m #[(.int i1), (.int i2), (.long j3)] below meth c s₁ [] 0 0 := Stand.of_body Bd
  have e0 : s₁.heap = h0 := by rw [← hh, Bd.state]; rfl
  have N0 := Fr.nil n0
  refine (?_ : own_Fin p e below _ _)
  refine own_st (fun t k => castTop (ef_1_IIJ m i1 i2 j3) k) ?_
  show own_Fin p e below _ (s₁.setTop (mkF m 0 #[.val (.int i1), .val (.int i2), .val (.long j3), .second, .unset] []))
  refine own_st (fun t k => XS.iloadN X0.here hx rfl (hb hby d1_0) rfl k) ?_
  show own_Fin p e below _ (s₁.setTop (mkF m 1 #[.val (.int i1), .val (.int i2), .val (.long j3), .second, .unset] [(.int i1)]))
  refine own_st (fun t k => XS.iconst X0.here hx rfl (hb hby d1_1) k) ?_
  show own_Fin p e below _ (s₁.setTop (mkF m 2 #[.val (.int i1), .val (.int i2), .val (.long j3), .second, .unset] [(.int (3 : Int32)), (.int i1)]))
  refine own_st (fun t k => XS.iand X0.here hx rfl (hb hby d1_2) rfl k) ?_
  show own_Fin p e below _ (s₁.setTop (mkF m 3 #[.val (.int i1), .val (.int i2), .val (.long j3), .second, .unset] [(.int (i1 &&& (3 : Int32)))]))
  rw [P0]
  show own_Fin p e below _ (s₁.setTop (mkF m 3 #[.val (.int i1), .val (.int i2), .val (.long j3), .second, .unset] [(.int (3 : Int32))]))
  refine own_st (fun t k => XS.istore X0.here hx rfl (hb hby d1_3) rfl (l' := #[.val (.int i1), .val (.int i2), .val (.long j3), .second, .val (.int (3 : Int32))]) rfl k) ?_
  show own_Fin p e below _ (s₁.setTop (mkF m 5 #[.val (.int i1), .val (.int i2), .val (.long j3), .second, .val (.int (3 : Int32))] []))
  refine own_st (fun t k => XS.iload X0.here hx rfl (hb hby d1_5) rfl k) ?_
  show own_Fin p e below _ (s₁.setTop (mkF m 7 #[.val (.int i1), .val (.int i2), .val (.long j3), .second, .val (.int (3 : Int32))] [(.int (3 : Int32))]))
  refine own_st (fun t k => XS.ifYes X0.here hx rfl (pc0 := 7) (pc' := 16) rfl (hb hby d1_7) rfl (by decide) (by decide) (by decide) k) ?_
  show own_Fin p e below _ (s₁.setTop (mkF m 16 #[.val (.int i1), .val (.int i2), .val (.long j3), .second, .val (.int (3 : Int32))] []))
  refine own_st (fun t k => XS.iload X0.here hx rfl (hb hby d1_16) rfl k) ?_
  show own_Fin p e below _ (s₁.setTop (mkF m 18 #[.val (.int i1), .val (.int i2), .val (.long j3), .second, .val (.int (3 : Int32))] [(.int (3 : Int32))]))
  refine own_st (fun t k => XS.iconst X0.here hx rfl (hb hby d1_18) k) ?_
  show own_Fin p e below _ (s₁.setTop (mkF m 19 #[.val (.int i1), .val (.int i2), .val (.long j3), .second, .val (.int (3 : Int32))] [(.int (1 : Int32)), (.int (3 : Int32))]))
  refine own_st (fun t k => XS.icmpYes X0.here hx rfl (pc0 := 19) (pc' := 39) rfl (hb hby d1_19) rfl (by decide) (by decide) (by decide) k) ?_
  show own_Fin p e below _ (s₁.setTop (mkF m 39 #[.val (.int i1), .val (.int i2), .val (.long j3), .second, .val (.int (3 : Int32))] []))
  refine own_st (fun t k => XS.iload X0.here hx rfl (hb hby d1_39) rfl k) ?_
  show own_Fin p e below _ (s₁.setTop (mkF m 41 #[.val (.int i1), .val (.int i2), .val (.long j3), .second, .val (.int (3 : Int32))] [(.int (3 : Int32))]))
  refine own_st (fun t k => XS.iconst X0.here hx rfl (hb hby d1_41) k) ?_
  show own_Fin p e below _ (s₁.setTop (mkF m 42 #[.val (.int i1), .val (.int i2), .val (.long j3), .second, .val (.int (3 : Int32))] [(.int (2 : Int32)), (.int (3 : Int32))]))
  refine own_st (fun t k => XS.icmpYes X0.here hx rfl (pc0 := 42) (pc' := 51) rfl (hb hby d1_42) rfl (by decide) (by decide) (by decide) k) ?_
  show own_Fin p e below _ (s₁.setTop (mkF m 51 #[.val (.int i1), .val (.int i2), .val (.long j3), .second, .val (.int (3 : Int32))] []))
  refine own_st (fun t k => XS.iloadN X0.here hx rfl (hb hby d1_51) rfl k) ?_
  show own_Fin p e below _ (s₁.setTop (mkF m 52 #[.val (.int i1), .val (.int i2), .val (.long j3), .second, .val (.int (3 : Int32))] [(.int i2)]))
  obtain ⟨_, _, ⟨T1, L1, k1, n1⟩, -, X1, ⟨Lc1, hQ1, l1, y1, z1⟩, st1⟩ := Jvm.LawKit.callS X0 hx (y := (⟨"com/example/deioces/deioces/Message", "heartbeat", "(I)Lcom/example/deioces/deioces/Message;"⟩ : MethodName)) hown (mvT hZ (hw _ (List.mem_of_getElem? (i := 84) rfl))) (mvT hZ (hw _ (List.mem_of_getElem? (i := 85) rfl))) (mvT hZ (hw _ (List.mem_of_getElem? (i := 7) rfl))) (mvT hZ (hw _ (List.mem_of_getElem? (i := 86) rfl))) (by decide) (backOf (W := 0) (rm14_21 l Z a0 hw [] i2 a4 h0 n0 Z0 P1) hZ (hw _ (List.mem_of_getElem? (i := 86) rfl)) (hw _ (List.mem_of_getElem? (i := 7) rfl)) (by decide) (by decide)) (g := (mkF m 52 #[.val (.int i1), .val (.int i2), .val (.long j3), .second, .val (.int (3 : Int32))] [(.int i2)])) rfl (by rw [hml]; rfl) (argsL := [(.int i2)]) (rest := []) (lenOf pd__I_Lcom_example_deioces_deioces_Message_ rfl) rfl (by show 2 * 0 + _ ≤ _; exact Nat.le_of_eq rfl) (hb hby d1_52) (fun _ _ => ⟨rfl, e0, (by decide : 0 + 1 ≤ _), (by decide : 0 + 4 ≤ _)⟩)
  dsimp only [Pt.U, Pt.locs, Pt.cells, Pt.slots] at X1 l1 y1 z1 st1 hQ1
  subst l1 y1 z1
  obtain ⟨b1_0, rfl, N1q, K1q, le_b1_0, G1_0, G1_1, G1_2, G1_3, G1_4⟩ := hQ1
  have sz_b1_0 : h0.size ≤ b1_0 := Nat.le_trans (Keep.refl h0 []).1 le_b1_0
  have g_b1_0 : n0 ≤ b1_0 := Nat.le_trans Z0 sz_b1_0
  have Z2 : n0 ≤ Array.size T1.heap := Nat.le_trans Z0 K1q.1
  have KC2 : Keep h0 T1.heap [] := (Keep.refl h0 []).trans K1q all0
  have N1 := Fr.app N0 N1q
  refine own_st st1 ?_
  show own_Fin p e below _ (T1.setTop (mkF m 55 #[.val (.int i1), .val (.int i2), .val (.long j3), .second, .val (.int (3 : Int32))] [(.ref b1_0)]))
  obtain ⟨fs, hr, hrun, hended, hW, hsame⟩ := X1.leave (v := some (.ref b1_0)) (fun h => by rw [Bd.returns] at h; cases h)
  have hQf : Q1_22 Z i1 i2 j3 a4 h0 n0 _ T1.heap _ := ⟨b1_0, rfl, N1, KC2, sz_b1_0, G1_0, G1_1, G1_2, G1_3, G1_4⟩
  exact ⟨_, _, retOut X1 hx (t := (.object "com/example/deioces/deioces/Message")) Bd.returns rfl (Or.inr (Or.inr (Or.inr (Or.inr ⟨rfl, rfl, rfl⟩)))) (hb hby d1_55) hr, hrun, hended, _, _, rfl, hQf, ⟨_, rfl⟩, hW, hsame.mono (by decide) (by decide)⟩
set_option maxRecDepth 65536 in
set_option maxHeartbeats 40000000 in
theorem rm8_23 (l : Launch) (Z : State) (a0 : Array Value) (hw : ∀ d ∈ tables_1, d.before a0 Z = true) (ws : List Jvm.Cond) (a1 : Addr) (a2 : Addr) (i3 : Int32) (h0 : Heap) (n0 : Nat) (Z0 : n0 ≤ Array.size h0) (P0 : Exa Z h0 a1 "com/example/deioces/deioces/Message") (P1 : Fld Z h0 a1 "com/example/deioces/deioces/Message" "kind" "Lcom/example/deioces/deioces/Message$Kind;" (.ref a2)) (P2 : Fld Z h0 a1 "com/example/deioces/deioces/Message" "sender" "I" (.int i3)) (P3 : Fld Z h0 a1 "com/example/deioces/deioces/Message" "stamp" "J" (.long (0 : Int64))) (P4 : Fld Z h0 a1 "com/example/deioces/deioces/Message" "supportive" "Z" (.int (0 : Int32))) :
    MetFree l (⟨"com/example/deioces/deioces/Message", "equals", "(Ljava/lang/Object;)Z"⟩ : MethodName) (head1 (Jvm.Cond.code (⟨"com/example/deioces/deioces/Message", "equals", "(Ljava/lang/Object;)Z"⟩ : MethodName) prog_31_method_10_code 3 (some .boolean) :: ws) ({ frames := 0, cells := 0, slots := 0, locals := 0 } : Room)) (fun a U => a = #[(.ref a1), (.ref a1)] ∧ Z.Warmed39 U.vm ∧ U.heap = h0) (fun _ _ _ _ _ => True) (fun _ U o U' => ∃ v L, o = .returned v ∧ own_Q h0 n0 (some (.int (1 : Int32))) v U'.heap L ∧ FrameEnd U o U' L ({ frames := 0, cells := 0, slots := 0, locals := 0 } : Room).cells ({ frames := 0, cells := 0, slots := 0, locals := 0 } : Room).slots) := by
  refine MetFree.of_bodySF (plainFor_of_name pn_com_example_deioces_deioces_Message) hisR ?_
  intro p e s m args below meth c s₁ Bd hml0 hP hK
  obtain ⟨rfl, hZ, hh⟩ := hP
  have hx := Bd.exec
  have hby := Bd.bytes
  have hml : c.maxLocals = 3 := hml0
  have hown : s.vm.findClass "com/example/deioces/deioces/Message" = some m.cls := findClass_of_methodNamed Bd.named
  have hnm := (name_of_methodNamed Bd.named Bd.method).1
  have X0 : Stand p l e ({ frames := 0, cells := 0, slots := 0, locals := 0 } : Room) s m #[(.ref a1), (.ref a1)] below meth c s₁ [] 0 0 := Stand.of_body Bd
  have e0 : s₁.heap = h0 := by rw [← hh, Bd.state]; rfl
  have N0 := Fr.nil n0
  refine (?_ : own_Fin p e below _ _)
  refine own_st (fun t k => castTop (ef_8_RR m a1 a1) k) ?_
  show own_Fin p e below _ (s₁.setTop (mkF m 0 #[.val (.ref a1), .val (.ref a1), .unset] []))
  refine own_st (fun t k => XS.aloadN X0.here hx rfl (hb hby d8_0) rfl rfl k) ?_
  show own_Fin p e below _ (s₁.setTop (mkF m 1 #[.val (.ref a1), .val (.ref a1), .unset] [(.ref a1)]))
  obtain ⟨T1, X1, e1, st1⟩ := instY X0 hx hZ hown (hw _ (List.mem_of_getElem? (i := 9) rfl)) e0 (Ins.self P0) (g := (mkF m 1 #[.val (.ref a1), .val (.ref a1), .unset] [(.ref a1)])) rfl rfl (hb hby d8_1)
  refine own_st st1 ?_
  show own_Fin p e below _ (T1.setTop (mkF m 4 #[.val (.ref a1), .val (.ref a1), .unset] [(.int (1 : Int32))]))
  refine own_st (fun t k => XS.ifYes X1.here hx rfl (pc0 := 4) (pc' := 9) rfl (hb hby d8_4) rfl (by decide) (by decide) (by decide) k) ?_
  show own_Fin p e below _ (T1.setTop (mkF m 9 #[.val (.ref a1), .val (.ref a1), .unset] []))
  refine own_st (fun t k => XS.aloadN X1.here hx rfl (hb hby d8_9) rfl rfl k) ?_
  show own_Fin p e below _ (T1.setTop (mkF m 10 #[.val (.ref a1), .val (.ref a1), .unset] [(.ref a1)]))
  obtain ⟨T2, X2, e2, st2⟩ := castY X1 hx hZ hown (hw _ (List.mem_of_getElem? (i := 9) rfl)) e1 (Ins.self P0) (g := (mkF m 10 #[.val (.ref a1), .val (.ref a1), .unset] [(.ref a1)])) rfl rfl (hb hby d8_10)
  refine own_st st2 ?_
  show own_Fin p e below _ (T2.setTop (mkF m 13 #[.val (.ref a1), .val (.ref a1), .unset] [(.ref a1)]))
  refine own_st (fun t k => XS.astoreN X2.here hx rfl (hb hby d8_13) rfl rfl (l' := #[.val (.ref a1), .val (.ref a1), .val (.ref a1)]) rfl k) ?_
  show own_Fin p e below _ (T2.setTop (mkF m 14 #[.val (.ref a1), .val (.ref a1), .val (.ref a1)] []))
  refine own_st (fun t k => XS.aloadN X2.here hx rfl (hb hby d8_14) rfl rfl k) ?_
  show own_Fin p e below _ (T2.setTop (mkF m 15 #[.val (.ref a1), .val (.ref a1), .val (.ref a1)] [(.ref a1)]))
  obtain ⟨T3, X3, e3, st3⟩ := getF X2 hx hZ hown (host := "") (Or.inl (hw _ (List.mem_of_getElem? (i := 20) rfl))) Via.refl e2 P1 (g := (mkF m 15 #[.val (.ref a1), .val (.ref a1), .val (.ref a1)] [(.ref a1)])) rfl rfl (hb hby d8_15)
  refine own_st st3 ?_
  show own_Fin p e below _ (T3.setTop (mkF m 18 #[.val (.ref a1), .val (.ref a1), .val (.ref a1)] [(.ref a2)]))
  refine own_st (fun t k => XS.aloadN X3.here hx rfl (hb hby d8_18) rfl rfl k) ?_
  show own_Fin p e below _ (T3.setTop (mkF m 19 #[.val (.ref a1), .val (.ref a1), .val (.ref a1)] [(.ref a1), (.ref a2)]))
  obtain ⟨T4, X4, e4, st4⟩ := getF X3 hx hZ hown (host := "") (Or.inl (hw _ (List.mem_of_getElem? (i := 20) rfl))) Via.refl e3 P1 (g := (mkF m 19 #[.val (.ref a1), .val (.ref a1), .val (.ref a1)] [(.ref a1), (.ref a2)])) rfl rfl (hb hby d8_19)
  refine own_st st4 ?_
  show own_Fin p e below _ (T4.setTop (mkF m 22 #[.val (.ref a1), .val (.ref a1), .val (.ref a1)] [(.ref a2), (.ref a2)]))
  refine own_st (fun t k => Jvm.RoadKit.acmp (g := (mkF m 22 #[.val (.ref a1), .val (.ref a1), .val (.ref a1)] [(.ref a2), (.ref a2)])) X4 hx rfl rfl rfl (pc0 := 22) (pc' := 25) (same := true) rfl (hb hby d8_22) rfl (decide_eq_true rfl) (by decide) (by decide) k) ?_
  show own_Fin p e below _ (T4.setTop (mkF m 25 #[.val (.ref a1), .val (.ref a1), .val (.ref a1)] []))
  refine own_st (fun t k => XS.aloadN X4.here hx rfl (hb hby d8_25) rfl rfl k) ?_
  show own_Fin p e below _ (T4.setTop (mkF m 26 #[.val (.ref a1), .val (.ref a1), .val (.ref a1)] [(.ref a1)]))
  obtain ⟨T5, X5, e5, st5⟩ := getF X4 hx hZ hown (host := "") (Or.inl (hw _ (List.mem_of_getElem? (i := 22) rfl))) Via.refl e4 P2 (g := (mkF m 26 #[.val (.ref a1), .val (.ref a1), .val (.ref a1)] [(.ref a1)])) rfl rfl (hb hby d8_26)
  refine own_st st5 ?_
  show own_Fin p e below _ (T5.setTop (mkF m 29 #[.val (.ref a1), .val (.ref a1), .val (.ref a1)] [(.int i3)]))
  refine own_st (fun t k => XS.aloadN X5.here hx rfl (hb hby d8_29) rfl rfl k) ?_
  show own_Fin p e below _ (T5.setTop (mkF m 30 #[.val (.ref a1), .val (.ref a1), .val (.ref a1)] [(.ref a1), (.int i3)]))
  obtain ⟨T6, X6, e6, st6⟩ := getF X5 hx hZ hown (host := "") (Or.inl (hw _ (List.mem_of_getElem? (i := 22) rfl))) Via.refl e5 P2 (g := (mkF m 30 #[.val (.ref a1), .val (.ref a1), .val (.ref a1)] [(.ref a1), (.int i3)])) rfl rfl (hb hby d8_30)
  refine own_st st6 ?_
  show own_Fin p e below _ (T6.setTop (mkF m 33 #[.val (.ref a1), .val (.ref a1), .val (.ref a1)] [(.int i3), (.int i3)]))
  refine own_st (fun t k => XS.icmpNo X6.here hx rfl (hb hby d8_33) rfl (teq rfl).2 k) ?_
  show own_Fin p e below _ (T6.setTop (mkF m 36 #[.val (.ref a1), .val (.ref a1), .val (.ref a1)] []))
  refine own_st (fun t k => XS.aloadN X6.here hx rfl (hb hby d8_36) rfl rfl k) ?_
  show own_Fin p e below _ (T6.setTop (mkF m 37 #[.val (.ref a1), .val (.ref a1), .val (.ref a1)] [(.ref a1)]))
  obtain ⟨T7, X7, e7, st7⟩ := getF X6 hx hZ hown (host := "") (Or.inl (hw _ (List.mem_of_getElem? (i := 24) rfl))) Via.refl e6 P3 (g := (mkF m 37 #[.val (.ref a1), .val (.ref a1), .val (.ref a1)] [(.ref a1)])) rfl rfl (hb hby d8_37)
  refine own_st st7 ?_
  show own_Fin p e below _ (T7.setTop (mkF m 40 #[.val (.ref a1), .val (.ref a1), .val (.ref a1)] [(.long (0 : Int64))]))
  refine own_st (fun t k => XS.aloadN X7.here hx rfl (hb hby d8_40) rfl rfl k) ?_
  show own_Fin p e below _ (T7.setTop (mkF m 41 #[.val (.ref a1), .val (.ref a1), .val (.ref a1)] [(.ref a1), (.long (0 : Int64))]))
  obtain ⟨T8, X8, e8, st8⟩ := getF X7 hx hZ hown (host := "") (Or.inl (hw _ (List.mem_of_getElem? (i := 24) rfl))) Via.refl e7 P3 (g := (mkF m 41 #[.val (.ref a1), .val (.ref a1), .val (.ref a1)] [(.ref a1), (.long (0 : Int64))])) rfl rfl (hb hby d8_41)
  refine own_st st8 ?_
  show own_Fin p e below _ (T8.setTop (mkF m 44 #[.val (.ref a1), .val (.ref a1), .val (.ref a1)] [(.long (0 : Int64)), (.long (0 : Int64))]))
  refine own_st (fun t k => XS.lcmp X8.here hx rfl (hb hby d8_44) rfl k) ?_
  show own_Fin p e below _ (T8.setTop (mkF m 45 #[.val (.ref a1), .val (.ref a1), .val (.ref a1)] [(.int (lcmpW (0 : Int64) (0 : Int64)))]))
  refine own_st (fun t k => XS.ifNo X8.here hx rfl (hb hby d8_45) rfl ((if0 _ _).trans (teq ((lw_eq (0 : Int64) (0 : Int64)).2 rfl)).2) k) ?_
  show own_Fin p e below _ (T8.setTop (mkF m 48 #[.val (.ref a1), .val (.ref a1), .val (.ref a1)] []))
  refine own_st (fun t k => XS.aloadN X8.here hx rfl (hb hby d8_48) rfl rfl k) ?_
  show own_Fin p e below _ (T8.setTop (mkF m 49 #[.val (.ref a1), .val (.ref a1), .val (.ref a1)] [(.ref a1)]))
  obtain ⟨T9, X9, e9, st9⟩ := getF X8 hx hZ hown (host := "") (Or.inl (hw _ (List.mem_of_getElem? (i := 26) rfl))) Via.refl e8 P4 (g := (mkF m 49 #[.val (.ref a1), .val (.ref a1), .val (.ref a1)] [(.ref a1)])) rfl rfl (hb hby d8_49)
  refine own_st st9 ?_
  show own_Fin p e below _ (T9.setTop (mkF m 52 #[.val (.ref a1), .val (.ref a1), .val (.ref a1)] [(.int (0 : Int32))]))
  refine own_st (fun t k => XS.aloadN X9.here hx rfl (hb hby d8_52) rfl rfl k) ?_
  show own_Fin p e below _ (T9.setTop (mkF m 53 #[.val (.ref a1), .val (.ref a1), .val (.ref a1)] [(.ref a1), (.int (0 : Int32))]))
  obtain ⟨T10, X10, e10, st10⟩ := getF X9 hx hZ hown (host := "") (Or.inl (hw _ (List.mem_of_getElem? (i := 26) rfl))) Via.refl e9 P4 (g := (mkF m 53 #[.val (.ref a1), .val (.ref a1), .val (.ref a1)] [(.ref a1), (.int (0 : Int32))])) rfl rfl (hb hby d8_53)
  refine own_st st10 ?_
  show own_Fin p e below _ (T10.setTop (mkF m 56 #[.val (.ref a1), .val (.ref a1), .val (.ref a1)] [(.int (0 : Int32)), (.int (0 : Int32))]))
  refine own_st (fun t k => XS.icmpNo X10.here hx rfl (hb hby d8_56) rfl (by decide) k) ?_
  show own_Fin p e below _ (T10.setTop (mkF m 59 #[.val (.ref a1), .val (.ref a1), .val (.ref a1)] []))
  refine own_st (fun t k => XS.iconst X10.here hx rfl (hb hby d8_59) k) ?_
  show own_Fin p e below _ (T10.setTop (mkF m 60 #[.val (.ref a1), .val (.ref a1), .val (.ref a1)] [(.int (1 : Int32))]))
  refine own_st (fun t k => XS.goto X10.here hx rfl (pc0 := 60) (pc' := 64) rfl (hb hby d8_60) (by decide) (by decide) k) ?_
  show own_Fin p e below _ (T10.setTop (mkF m 64 #[.val (.ref a1), .val (.ref a1), .val (.ref a1)] [(.int (1 : Int32))]))
  obtain ⟨fs, hr, hrun, hended, hW, hsame⟩ := X10.leave (v := some (.int (1 : Int32))) (fun h => by rw [Bd.returns] at h; cases h)
  exact ⟨_, _, retN X10 hx (t := .boolean) Bd.returns (by simp) (hb hby d8_64) hr, hrun, hended, _, _, rfl, ⟨rfl, N0, e10⟩, ⟨_, rfl⟩, hW, hsame.mono (by decide) (by decide)⟩
set_option maxRecDepth 65536 in
set_option maxHeartbeats 40000000 in
theorem rm0_c30 (l : Launch) (Z : State) (a0 : Array Value) (hw : ∀ d ∈ tables_1, d.before a0 Z = true) (ws : List Jvm.Cond) (w_ELECTION : Addr) (w_RELEASE : Addr) (w_HEARTBEAT : Addr) (w_REPLY : Addr) (p0 : Int32) (p1 : Int32) (p2 : Int64) (p3 : Int64) (p4 : Int64) (p5 : Int64) (h0 : Heap) (n0 : Nat) (Z0 : n0 ≤ Array.size h0) (PN : own_Pins Z h0 w_ELECTION w_RELEASE w_HEARTBEAT w_REPLY) (q0 : (p0 &&& (3 : Int32)) = (3 : Int32)) :
    MetFree l x (head1 (Jvm.Cond.code x code maxLocals ret :: ws) room_1) (fun a U => a = #[(.int p0), (.int p1), (.long p2), (.long p3), (.long p4), (.long p5)] ∧ Z.Warmed39 U.vm ∧ U.heap = h0) (fun _ _ _ _ _ => True) (fun _ U o U' => ∃ v L, o = .returned v ∧ own_Q0 n0 (some (.int (1 : Int32))) v U'.heap L ∧ FrameEnd U o U' L room_1.cells room_1.slots) := by
  refine MetFree.of_bodySF (plainFor_of_name pn_com_example_deioces_deioces_DatagramEchoingPinLaw) hisR ?_
  intro p e s m args below meth c s₁ Bd hml0 hP hK
  obtain ⟨rfl, hZ, hh⟩ := hP
  have hx := Bd.exec
  have hby := Bd.bytes
  have hml : c.maxLocals = 14 := hml0
  have hown : s.vm.findClass "com/example/deioces/deioces/DatagramEchoingPinLaw" = some m.cls := findClass_of_methodNamed Bd.named
  have hnm := (name_of_methodNamed Bd.named Bd.method).1
  have X0 : Stand p l e room_1 s m #[(.int p0), (.int p1), (.long p2), (.long p3), (.long p4), (.long p5)] below meth c s₁ [] 0 0 := Stand.of_body Bd
  have e0 : s₁.heap = h0 := by rw [← hh, Bd.state]; rfl
  have N0 := Fr.nil n0
  obtain ⟨S_ELECTION, E_ELECTION, S_RELEASE, E_RELEASE, S_HEARTBEAT, E_HEARTBEAT, S_REPLY, E_REPLY⟩ := PN
  refine (?_ : own_Fin p e below _ _)
  refine own_st (fun t k => castTop (ef_0_IIJJJJ m p0 p1 p2 p3 p4 p5) k) ?_
  show own_Fin p e below _ (s₁.setTop (mkF m 0 #[.val (.int p0), .val (.int p1), .val (.long p2), .second, .val (.long p3), .second, .val (.long p4), .second, .val (.long p5), .second, .unset, .unset, .unset, .unset] []))
  refine own_st (fun t k => XS.lload X0.here hx rfl (hb hby at_0) rfl k) ?_
  show own_Fin p e below _ (s₁.setTop (mkF m 2 #[.val (.int p0), .val (.int p1), .val (.long p2), .second, .val (.long p3), .second, .val (.long p4), .second, .val (.long p5), .second, .unset, .unset, .unset, .unset] [(.long p5)]))
  refine own_st (fun t k => X0.ldc2J hx hown (mvT hZ (hw _ (List.mem_of_getElem? (i := 0) rfl))) rfl (hb hby at_2) k) ?_
  show own_Fin p e below _ (s₁.setTop (mkF m 5 #[.val (.int p0), .val (.int p1), .val (.long p2), .second, .val (.long p3), .second, .val (.long p4), .second, .val (.long p5), .second, .unset, .unset, .unset, .unset] [(.long (9223372036854775807 : Int64)), (.long p5)]))
  refine own_st (fun t k => XS.land X0.here hx rfl (hb hby at_5) rfl k) ?_
  show own_Fin p e below _ (s₁.setTop (mkF m 6 #[.val (.int p0), .val (.int p1), .val (.long p2), .second, .val (.long p3), .second, .val (.long p4), .second, .val (.long p5), .second, .unset, .unset, .unset, .unset] [(.long (p5 &&& (9223372036854775807 : Int64)))]))
  refine own_st (fun t k => XS.lstore X0.here hx rfl (hb hby at_6) rfl (l' := #[.val (.int p0), .val (.int p1), .val (.long p2), .second, .val (.long p3), .second, .val (.long p4), .second, .val (.long p5), .second, .val (.long (p5 &&& (9223372036854775807 : Int64))), .second, .unset, .unset]) rfl k) ?_
  show own_Fin p e below _ (s₁.setTop (mkF m 8 #[.val (.int p0), .val (.int p1), .val (.long p2), .second, .val (.long p3), .second, .val (.long p4), .second, .val (.long p5), .second, .val (.long (p5 &&& (9223372036854775807 : Int64))), .second, .unset, .unset] []))
  refine own_st (fun t k => XS.iloadN X0.here hx rfl (hb hby at_8) rfl k) ?_
  show own_Fin p e below _ (s₁.setTop (mkF m 9 #[.val (.int p0), .val (.int p1), .val (.long p2), .second, .val (.long p3), .second, .val (.long p4), .second, .val (.long p5), .second, .val (.long (p5 &&& (9223372036854775807 : Int64))), .second, .unset, .unset] [(.int p0)]))
  refine own_st (fun t k => XS.iloadN X0.here hx rfl (hb hby at_9) rfl k) ?_
  show own_Fin p e below _ (s₁.setTop (mkF m 10 #[.val (.int p0), .val (.int p1), .val (.long p2), .second, .val (.long p3), .second, .val (.long p4), .second, .val (.long p5), .second, .val (.long (p5 &&& (9223372036854775807 : Int64))), .second, .unset, .unset] [(.int p1), (.int p0)]))
  refine own_st (fun t k => XS.lloadN X0.here hx rfl (hb hby at_10) rfl k) ?_
  show own_Fin p e below _ (s₁.setTop (mkF m 11 #[.val (.int p0), .val (.int p1), .val (.long p2), .second, .val (.long p3), .second, .val (.long p4), .second, .val (.long p5), .second, .val (.long (p5 &&& (9223372036854775807 : Int64))), .second, .unset, .unset] [(.long p2), (.int p1), (.int p0)]))
  obtain ⟨_, _, ⟨T1, L1, k1, n1⟩, -, X1, ⟨Lc1, hQ1, l1, y1, z1⟩, st1⟩ := Jvm.LawKit.callS X0 hx (y := (⟨"com/example/deioces/deioces/DatagramEchoingPinLaw", "makeMessage", "(IIJ)Lcom/example/deioces/deioces/Message;"⟩ : MethodName)) hown (mvT hZ (hw _ (List.mem_of_getElem? (i := 1) rfl))) (mvT hZ (hw _ (List.mem_of_getElem? (i := 2) rfl))) (mvT hZ (hw _ (List.mem_of_getElem? (i := 3) rfl))) (mvT hZ (hw _ (List.mem_of_getElem? (i := 4) rfl))) (by decide) (backOf (W := 0) (rm1_22 l Z a0 hw [] p0 p1 p2 w_HEARTBEAT h0 n0 Z0 q0 S_HEARTBEAT) hZ (hw _ (List.mem_of_getElem? (i := 4) rfl)) (hw _ (List.mem_of_getElem? (i := 3) rfl)) (by decide) (by decide)) (g := (mkF m 11 #[.val (.int p0), .val (.int p1), .val (.long p2), .second, .val (.long p3), .second, .val (.long p4), .second, .val (.long p5), .second, .val (.long (p5 &&& (9223372036854775807 : Int64))), .second, .unset, .unset] [(.long p2), (.int p1), (.int p0)])) rfl (by rw [hml]; rfl) (argsL := [(.int p0), (.int p1), (.long p2)]) (rest := []) (lenOf pd__IIJ_Lcom_example_deioces_deioces_Message_ rfl) rfl (by show 2 * 0 + _ ≤ _; exact Nat.le_of_eq rfl) (hb hby at_11) (fun _ _ => ⟨rfl, e0, (by decide : 0 + 1 ≤ _), (by decide : 0 + 4 ≤ _)⟩)
  dsimp only [Pt.U, Pt.locs, Pt.cells, Pt.slots] at X1 l1 y1 z1 st1 hQ1
  subst l1 y1 z1
  obtain ⟨b1_0, rfl, N1q, K1q, le_b1_0, G1_0, G1_1, G1_2, G1_3, G1_4⟩ := hQ1
  have sz_b1_0 : h0.size ≤ b1_0 := Nat.le_trans (Keep.refl h0 []).1 le_b1_0
  have g_b1_0 : n0 ≤ b1_0 := Nat.le_trans Z0 sz_b1_0
  have Z2 : n0 ≤ Array.size T1.heap := Nat.le_trans Z0 K1q.1
  have KC2 : Keep h0 T1.heap [] := (Keep.refl h0 []).trans K1q all0
  have N1 := Fr.app N0 N1q
  refine own_st st1 ?_
  show own_Fin p e below _ (T1.setTop (mkF m 14 #[.val (.int p0), .val (.int p1), .val (.long p2), .second, .val (.long p3), .second, .val (.long p4), .second, .val (.long p5), .second, .val (.long (p5 &&& (9223372036854775807 : Int64))), .second, .unset, .unset] [(.ref b1_0)]))
  refine own_st (fun t k => XS.astore X1.here hx rfl (hb hby at_14) rfl rfl (l' := #[.val (.int p0), .val (.int p1), .val (.long p2), .second, .val (.long p3), .second, .val (.long p4), .second, .val (.long p5), .second, .val (.long (p5 &&& (9223372036854775807 : Int64))), .second, .val (.ref b1_0), .unset]) rfl k) ?_
  show own_Fin p e below _ (T1.setTop (mkF m 16 #[.val (.int p0), .val (.int p1), .val (.long p2), .second, .val (.long p3), .second, .val (.long p4), .second, .val (.long p5), .second, .val (.long (p5 &&& (9223372036854775807 : Int64))), .second, .val (.ref b1_0), .unset] []))
  refine own_st (fun t k => XS.aload X1.here hx rfl (hb hby at_16) rfl rfl k) ?_
  show own_Fin p e below _ (T1.setTop (mkF m 18 #[.val (.int p0), .val (.int p1), .val (.long p2), .second, .val (.long p3), .second, .val (.long p4), .second, .val (.long p5), .second, .val (.long (p5 &&& (9223372036854775807 : Int64))), .second, .val (.ref b1_0), .unset] [(.ref b1_0)]))
  refine own_st (fun t k => XS.lload X1.here hx rfl (hb hby at_18) rfl k) ?_
  show own_Fin p e below _ (T1.setTop (mkF m 20 #[.val (.int p0), .val (.int p1), .val (.long p2), .second, .val (.long p3), .second, .val (.long p4), .second, .val (.long p5), .second, .val (.long (p5 &&& (9223372036854775807 : Int64))), .second, .val (.ref b1_0), .unset] [(.long p3), (.ref b1_0)]))
  refine own_st (fun t k => XS.lload X1.here hx rfl (hb hby at_20) rfl k) ?_
  show own_Fin p e below _ (T1.setTop (mkF m 22 #[.val (.int p0), .val (.int p1), .val (.long p2), .second, .val (.long p3), .second, .val (.long p4), .second, .val (.long p5), .second, .val (.long (p5 &&& (9223372036854775807 : Int64))), .second, .val (.ref b1_0), .unset] [(.long p4), (.long p3), (.ref b1_0)]))
  refine own_st (fun t k => XS.lload X1.here hx rfl (hb hby at_22) rfl k) ?_
  show own_Fin p e below _ (T1.setTop (mkF m 24 #[.val (.int p0), .val (.int p1), .val (.long p2), .second, .val (.long p3), .second, .val (.long p4), .second, .val (.long p5), .second, .val (.long (p5 &&& (9223372036854775807 : Int64))), .second, .val (.ref b1_0), .unset] [(.long (p5 &&& (9223372036854775807 : Int64))), (.long p4), (.long p3), (.ref b1_0)]))
  obtain ⟨_, _, ⟨T3, L3, k3, n3⟩, -, X3, ⟨Lc3, hQ3, l3, y3, z3⟩, st3⟩ := Jvm.LawKit.callS X1 hx (y := (⟨"com/example/deioces/deioces/Datagram", "echoing", "(Lcom/example/deioces/deioces/Message;JJJ)Lcom/example/deioces/deioces/Datagram;"⟩ : MethodName)) hown (mvT hZ (hw _ (List.mem_of_getElem? (i := 28) rfl))) (mvT hZ (hw _ (List.mem_of_getElem? (i := 29) rfl))) (mvT hZ (hw _ (List.mem_of_getElem? (i := 30) rfl))) (mvT hZ (hw _ (List.mem_of_getElem? (i := 31) rfl))) (by decide) (backOf (W := 0) (rm5_5 l Z a0 hw [] b1_0 p3 p4 (p5 &&& (9223372036854775807 : Int64)) T1.heap n0 Z2) hZ (hw _ (List.mem_of_getElem? (i := 31) rfl)) (hw _ (List.mem_of_getElem? (i := 30) rfl)) (by decide) (by decide)) (g := (mkF m 24 #[.val (.int p0), .val (.int p1), .val (.long p2), .second, .val (.long p3), .second, .val (.long p4), .second, .val (.long p5), .second, .val (.long (p5 &&& (9223372036854775807 : Int64))), .second, .val (.ref b1_0), .unset] [(.long (p5 &&& (9223372036854775807 : Int64))), (.long p4), (.long p3), (.ref b1_0)])) rfl (by rw [hml]; rfl) (argsL := [(.ref b1_0), (.long p3), (.long p4), (.long (p5 &&& (9223372036854775807 : Int64)))]) (rest := []) (lenOf pd__Lcom_example_deioces_deioces_Message_JJJ_Lcom_example_deioces_deioces_Datagram_ rfl) rfl (by show 2 * 0 + _ ≤ _; exact Nat.le_of_eq rfl) (hb hby at_24) (fun _ _ => ⟨rfl, rfl, (by decide : 1 + 1 ≤ _), (by decide : 4 + 5 ≤ _)⟩)
  dsimp only [Pt.U, Pt.locs, Pt.cells, Pt.slots] at X3 l3 y3 z3 st3 hQ3
  subst l3 y3 z3
  obtain ⟨b3_0, rfl, N3q, K3q, le_b3_0, G3_0, G3_1, G3_2, G3_3, G3_4, G3_5⟩ := hQ3
  have sz_b3_0 : h0.size ≤ b3_0 := Nat.le_trans KC2.1 le_b3_0
  have g_b3_0 : n0 ≤ b3_0 := Nat.le_trans Z0 sz_b3_0
  have Z4 : n0 ≤ Array.size T3.heap := Nat.le_trans Z2 K3q.1
  have KC4 : Keep h0 T3.heap [] := KC2.trans K3q all0
  have N3 := Fr.app N1 N3q
  refine own_st st3 ?_
  show own_Fin p e below _ (T3.setTop (mkF m 27 #[.val (.int p0), .val (.int p1), .val (.long p2), .second, .val (.long p3), .second, .val (.long p4), .second, .val (.long p5), .second, .val (.long (p5 &&& (9223372036854775807 : Int64))), .second, .val (.ref b1_0), .unset] [(.ref b3_0)]))
  refine own_st (fun t k => XS.astore X3.here hx rfl (hb hby at_27) rfl rfl (l' := #[.val (.int p0), .val (.int p1), .val (.long p2), .second, .val (.long p3), .second, .val (.long p4), .second, .val (.long p5), .second, .val (.long (p5 &&& (9223372036854775807 : Int64))), .second, .val (.ref b1_0), .val (.ref b3_0)]) rfl k) ?_
  show own_Fin p e below _ (T3.setTop (mkF m 29 #[.val (.int p0), .val (.int p1), .val (.long p2), .second, .val (.long p3), .second, .val (.long p4), .second, .val (.long p5), .second, .val (.long (p5 &&& (9223372036854775807 : Int64))), .second, .val (.ref b1_0), .val (.ref b3_0)] []))
  refine own_st (fun t k => XS.aload X3.here hx rfl (hb hby at_29) rfl rfl k) ?_
  show own_Fin p e below _ (T3.setTop (mkF m 31 #[.val (.int p0), .val (.int p1), .val (.long p2), .second, .val (.long p3), .second, .val (.long p4), .second, .val (.long p5), .second, .val (.long (p5 &&& (9223372036854775807 : Int64))), .second, .val (.ref b1_0), .val (.ref b3_0)] [(.ref b3_0)]))
  obtain ⟨cq5, kq5, q5a, q5b, q5c⟩ := isOf hZ rfl G3_0
  obtain ⟨_, _, ⟨T5, L5, k5, n5⟩, -, X5, ⟨Lc5, hQ5, l5, y5, z5⟩, st5⟩ := X3.virtualBack hx (y := (⟨"com/example/deioces/deioces/Datagram", "message", "()Lcom/example/deioces/deioces/Message;"⟩ : MethodName)) (z := (⟨"com/example/deioces/deioces/Datagram", "message", "()Lcom/example/deioces/deioces/Message;"⟩ : MethodName)) hown (mvT hZ (hw _ (List.mem_of_getElem? (i := 48) rfl))) (mvT hZ (hw _ (List.mem_of_getElem? (i := 49) rfl))) (notFace_of_selects (args := #[]) (mvT hZ (hw _ (List.mem_of_getElem? (i := 51) rfl)))) (mvT hZ (hw _ (List.mem_of_getElem? (i := 51) rfl))) (mvT hZ (hw _ (List.mem_of_getElem? (i := 50) rfl))) (by decide) (backOf (W := 0) (rm7_6 l Z a0 hw [] b3_0 b1_0 T3.heap n0 Z4 G3_1) hZ (hw _ (List.mem_of_getElem? (i := 52) rfl)) (hw _ (List.mem_of_getElem? (i := 30) rfl)) (by decide) (by decide)) q5a q5c (g := (mkF m 31 #[.val (.int p0), .val (.int p1), .val (.long p2), .second, .val (.long p3), .second, .val (.long p4), .second, .val (.long p5), .second, .val (.long (p5 &&& (9223372036854775807 : Int64))), .second, .val (.ref b1_0), .val (.ref b3_0)] [(.ref b3_0)])) rfl (by rw [hml]; rfl) (Steps.refl _) (argsL := []) (rest := []) (lenOf pd___Lcom_example_deioces_deioces_Message_ rfl) rfl (by show 2 * 0 + _ ≤ _; exact Nat.le_of_eq rfl) (hb hby at_31) (fun _ _ => ⟨rfl, rfl, (by decide : 2 + 0 ≤ _), (by decide : 9 + 0 ≤ _)⟩)
  dsimp only [Pt.U, Pt.locs, Pt.cells, Pt.slots] at X5 l5 y5 z5 st5 hQ5
  subst l5 y5 z5
  obtain ⟨rfl, N5q, e5⟩ := hQ5
  have N5 := Fr.app N3 N5q
  refine own_tr st5 ?_
  show own_Fin p e below _ (T5.setTop (mkF m 34 #[.val (.int p0), .val (.int p1), .val (.long p2), .second, .val (.long p3), .second, .val (.long p4), .second, .val (.long p5), .second, .val (.long (p5 &&& (9223372036854775807 : Int64))), .second, .val (.ref b1_0), .val (.ref b3_0)] [(.ref b1_0)]))
  refine own_st (fun t k => XS.aload X5.here hx rfl (hb hby at_34) rfl rfl k) ?_
  show own_Fin p e below _ (T5.setTop (mkF m 36 #[.val (.int p0), .val (.int p1), .val (.long p2), .second, .val (.long p3), .second, .val (.long p4), .second, .val (.long p5), .second, .val (.long (p5 &&& (9223372036854775807 : Int64))), .second, .val (.ref b1_0), .val (.ref b3_0)] [(.ref b1_0), (.ref b1_0)]))
  have F7 : Exa Z T3.heap b1_0 "com/example/deioces/deioces/Message" := (G1_0.keep K3q)
  have F8 : Fld Z T3.heap b1_0 "com/example/deioces/deioces/Message" "kind" "Lcom/example/deioces/deioces/Message$Kind;" (.ref w_HEARTBEAT) := (G1_1.keep K3q nin0)
  have F9 : Fld Z T3.heap b1_0 "com/example/deioces/deioces/Message" "sender" "I" (.int p1) := (G1_2.keep K3q nin0)
  have F10 : Fld Z T3.heap b1_0 "com/example/deioces/deioces/Message" "stamp" "J" (.long (0 : Int64)) := (G1_3.keep K3q nin0)
  have F11 : Fld Z T3.heap b1_0 "com/example/deioces/deioces/Message" "supportive" "Z" (.int (0 : Int32)) := (G1_4.keep K3q nin0)
  obtain ⟨cq6, kq6, q6a, q6b, q6c⟩ := isOf hZ e5 F7
  obtain ⟨_, _, ⟨T6, L6, k6, n6⟩, -, X6, ⟨Lc6, hQ6, l6, y6, z6⟩, st6⟩ := X5.virtualBack hx (y := (⟨"com/example/deioces/deioces/Message", "equals", "(Ljava/lang/Object;)Z"⟩ : MethodName)) (z := (⟨"com/example/deioces/deioces/Message", "equals", "(Ljava/lang/Object;)Z"⟩ : MethodName)) hown (mvT hZ (hw _ (List.mem_of_getElem? (i := 53) rfl))) (mvT hZ (hw _ (List.mem_of_getElem? (i := 54) rfl))) (notFace_of_selects (args := #[]) (mvT hZ (hw _ (List.mem_of_getElem? (i := 56) rfl)))) (mvT hZ (hw _ (List.mem_of_getElem? (i := 56) rfl))) (mvT hZ (hw _ (List.mem_of_getElem? (i := 55) rfl))) (by decide) (backOf (W := 0) (rm8_23 l Z a0 hw [] b1_0 w_HEARTBEAT p1 T3.heap n0 Z4 F7 F8 F9 F10 F11) hZ (hw _ (List.mem_of_getElem? (i := 57) rfl)) (hw _ (List.mem_of_getElem? (i := 7) rfl)) (by decide) (by decide)) q6a q6c (g := (mkF m 36 #[.val (.int p0), .val (.int p1), .val (.long p2), .second, .val (.long p3), .second, .val (.long p4), .second, .val (.long p5), .second, .val (.long (p5 &&& (9223372036854775807 : Int64))), .second, .val (.ref b1_0), .val (.ref b3_0)] [(.ref b1_0), (.ref b1_0)])) rfl (by rw [hml]; rfl) (Steps.refl _) (argsL := [(.ref b1_0)]) (rest := []) (lenOf pd__Ljava_lang_Object__Z rfl) rfl (by show 2 * 0 + _ ≤ _; exact Nat.le_of_eq rfl) (hb hby at_36) (fun _ _ => ⟨rfl, e5, (by decide : 2 + 0 ≤ _), (by decide : 9 + 0 ≤ _)⟩)
  dsimp only [Pt.U, Pt.locs, Pt.cells, Pt.slots] at X6 l6 y6 z6 st6 hQ6
  subst l6 y6 z6
  obtain ⟨rfl, N6q, e6⟩ := hQ6
  have N6 := Fr.app N5 N6q
  refine own_tr st6 ?_
  show own_Fin p e below _ (T6.setTop (mkF m 39 #[.val (.int p0), .val (.int p1), .val (.long p2), .second, .val (.long p3), .second, .val (.long p4), .second, .val (.long p5), .second, .val (.long (p5 &&& (9223372036854775807 : Int64))), .second, .val (.ref b1_0), .val (.ref b3_0)] [(.int (1 : Int32))]))
  refine own_st (fun t k => XS.ifNo X6.here hx rfl (hb hby at_39) rfl (by decide) k) ?_
  show own_Fin p e below _ (T6.setTop (mkF m 42 #[.val (.int p0), .val (.int p1), .val (.long p2), .second, .val (.long p3), .second, .val (.long p4), .second, .val (.long p5), .second, .val (.long (p5 &&& (9223372036854775807 : Int64))), .second, .val (.ref b1_0), .val (.ref b3_0)] []))
  refine own_st (fun t k => XS.aload X6.here hx rfl (hb hby at_42) rfl rfl k) ?_
  show own_Fin p e below _ (T6.setTop (mkF m 44 #[.val (.int p0), .val (.int p1), .val (.long p2), .second, .val (.long p3), .second, .val (.long p4), .second, .val (.long p5), .second, .val (.long (p5 &&& (9223372036854775807 : Int64))), .second, .val (.ref b1_0), .val (.ref b3_0)] [(.ref b3_0)]))
  obtain ⟨cq12, kq12, q12a, q12b, q12c⟩ := isOf hZ e6 G3_0
  obtain ⟨_, _, ⟨T12, L12, k12, n12⟩, -, X12, ⟨Lc12, hQ12, l12, y12, z12⟩, st12⟩ := X6.virtualBack hx (y := (⟨"com/example/deioces/deioces/Datagram", "sent", "()J"⟩ : MethodName)) (z := (⟨"com/example/deioces/deioces/Datagram", "sent", "()J"⟩ : MethodName)) hown (mvT hZ (hw _ (List.mem_of_getElem? (i := 59) rfl))) (mvT hZ (hw _ (List.mem_of_getElem? (i := 60) rfl))) (notFace_of_selects (args := #[]) (mvT hZ (hw _ (List.mem_of_getElem? (i := 62) rfl)))) (mvT hZ (hw _ (List.mem_of_getElem? (i := 62) rfl))) (mvT hZ (hw _ (List.mem_of_getElem? (i := 61) rfl))) (by decide) (backOf (W := 0) (rm9_8 l Z a0 hw [] b3_0 p3 T3.heap n0 Z4 G3_2) hZ (hw _ (List.mem_of_getElem? (i := 63) rfl)) (hw _ (List.mem_of_getElem? (i := 30) rfl)) (by decide) (by decide)) q12a q12c (g := (mkF m 44 #[.val (.int p0), .val (.int p1), .val (.long p2), .second, .val (.long p3), .second, .val (.long p4), .second, .val (.long p5), .second, .val (.long (p5 &&& (9223372036854775807 : Int64))), .second, .val (.ref b1_0), .val (.ref b3_0)] [(.ref b3_0)])) rfl (by rw [hml]; rfl) (Steps.refl _) (argsL := []) (rest := []) (lenOf pd___J rfl) rfl (by show 2 * 0 + _ ≤ _; exact Nat.le_of_eq rfl) (hb hby at_44) (fun _ _ => ⟨rfl, e6, (by decide : 2 + 0 ≤ _), (by decide : 9 + 0 ≤ _)⟩)
  dsimp only [Pt.U, Pt.locs, Pt.cells, Pt.slots] at X12 l12 y12 z12 st12 hQ12
  subst l12 y12 z12
  obtain ⟨rfl, N12q, e12⟩ := hQ12
  have N12 := Fr.app N6 N12q
  refine own_tr st12 ?_
  show own_Fin p e below _ (T12.setTop (mkF m 47 #[.val (.int p0), .val (.int p1), .val (.long p2), .second, .val (.long p3), .second, .val (.long p4), .second, .val (.long p5), .second, .val (.long (p5 &&& (9223372036854775807 : Int64))), .second, .val (.ref b1_0), .val (.ref b3_0)] [(.long p3)]))
  refine own_st (fun t k => XS.lload X12.here hx rfl (hb hby at_47) rfl k) ?_
  show own_Fin p e below _ (T12.setTop (mkF m 49 #[.val (.int p0), .val (.int p1), .val (.long p2), .second, .val (.long p3), .second, .val (.long p4), .second, .val (.long p5), .second, .val (.long (p5 &&& (9223372036854775807 : Int64))), .second, .val (.ref b1_0), .val (.ref b3_0)] [(.long p3), (.long p3)]))
  refine own_st (fun t k => XS.lcmp X12.here hx rfl (hb hby at_49) rfl k) ?_
  show own_Fin p e below _ (T12.setTop (mkF m 50 #[.val (.int p0), .val (.int p1), .val (.long p2), .second, .val (.long p3), .second, .val (.long p4), .second, .val (.long p5), .second, .val (.long (p5 &&& (9223372036854775807 : Int64))), .second, .val (.ref b1_0), .val (.ref b3_0)] [(.int (lcmpW p3 p3))]))
  refine own_st (fun t k => XS.ifNo X12.here hx rfl (hb hby at_50) rfl ((if0 _ _).trans (teq ((lw_eq p3 p3).2 rfl)).2) k) ?_
  show own_Fin p e below _ (T12.setTop (mkF m 53 #[.val (.int p0), .val (.int p1), .val (.long p2), .second, .val (.long p3), .second, .val (.long p4), .second, .val (.long p5), .second, .val (.long (p5 &&& (9223372036854775807 : Int64))), .second, .val (.ref b1_0), .val (.ref b3_0)] []))
  refine own_st (fun t k => XS.aload X12.here hx rfl (hb hby at_53) rfl rfl k) ?_
  show own_Fin p e below _ (T12.setTop (mkF m 55 #[.val (.int p0), .val (.int p1), .val (.long p2), .second, .val (.long p3), .second, .val (.long p4), .second, .val (.long p5), .second, .val (.long (p5 &&& (9223372036854775807 : Int64))), .second, .val (.ref b1_0), .val (.ref b3_0)] [(.ref b3_0)]))
  obtain ⟨cq13, kq13, q13a, q13b, q13c⟩ := isOf hZ e12 G3_0
  obtain ⟨_, _, ⟨T13, L13, k13, n13⟩, -, X13, ⟨Lc13, hQ13, l13, y13, z13⟩, st13⟩ := X12.virtualBack hx (y := (⟨"com/example/deioces/deioces/Datagram", "echoes", "()Z"⟩ : MethodName)) (z := (⟨"com/example/deioces/deioces/Datagram", "echoes", "()Z"⟩ : MethodName)) hown (mvT hZ (hw _ (List.mem_of_getElem? (i := 64) rfl))) (mvT hZ (hw _ (List.mem_of_getElem? (i := 65) rfl))) (notFace_of_selects (args := #[]) (mvT hZ (hw _ (List.mem_of_getElem? (i := 67) rfl)))) (mvT hZ (hw _ (List.mem_of_getElem? (i := 67) rfl))) (mvT hZ (hw _ (List.mem_of_getElem? (i := 66) rfl))) (by decide) (backOf (W := 0) (rm10_9 l Z a0 hw [] b3_0 T3.heap n0 Z4 G3_3) hZ (hw _ (List.mem_of_getElem? (i := 68) rfl)) (hw _ (List.mem_of_getElem? (i := 30) rfl)) (by decide) (by decide)) q13a q13c (g := (mkF m 55 #[.val (.int p0), .val (.int p1), .val (.long p2), .second, .val (.long p3), .second, .val (.long p4), .second, .val (.long p5), .second, .val (.long (p5 &&& (9223372036854775807 : Int64))), .second, .val (.ref b1_0), .val (.ref b3_0)] [(.ref b3_0)])) rfl (by rw [hml]; rfl) (Steps.refl _) (argsL := []) (rest := []) (lenOf pd___Z rfl) rfl (by show 2 * 0 + _ ≤ _; exact Nat.le_of_eq rfl) (hb hby at_55) (fun _ _ => ⟨rfl, e12, (by decide : 2 + 0 ≤ _), (by decide : 9 + 0 ≤ _)⟩)
  dsimp only [Pt.U, Pt.locs, Pt.cells, Pt.slots] at X13 l13 y13 z13 st13 hQ13
  subst l13 y13 z13
  obtain ⟨rfl, N13q, e13⟩ := hQ13
  have N13 := Fr.app N12 N13q
  refine own_tr st13 ?_
  show own_Fin p e below _ (T13.setTop (mkF m 58 #[.val (.int p0), .val (.int p1), .val (.long p2), .second, .val (.long p3), .second, .val (.long p4), .second, .val (.long p5), .second, .val (.long (p5 &&& (9223372036854775807 : Int64))), .second, .val (.ref b1_0), .val (.ref b3_0)] [(.int (1 : Int32))]))
  refine own_st (fun t k => XS.ifNo X13.here hx rfl (hb hby at_58) rfl (by decide) k) ?_
  show own_Fin p e below _ (T13.setTop (mkF m 61 #[.val (.int p0), .val (.int p1), .val (.long p2), .second, .val (.long p3), .second, .val (.long p4), .second, .val (.long p5), .second, .val (.long (p5 &&& (9223372036854775807 : Int64))), .second, .val (.ref b1_0), .val (.ref b3_0)] []))
  refine own_st (fun t k => XS.aload X13.here hx rfl (hb hby at_61) rfl rfl k) ?_
  show own_Fin p e below _ (T13.setTop (mkF m 63 #[.val (.int p0), .val (.int p1), .val (.long p2), .second, .val (.long p3), .second, .val (.long p4), .second, .val (.long p5), .second, .val (.long (p5 &&& (9223372036854775807 : Int64))), .second, .val (.ref b1_0), .val (.ref b3_0)] [(.ref b3_0)]))
  obtain ⟨cq14, kq14, q14a, q14b, q14c⟩ := isOf hZ e13 G3_0
  obtain ⟨_, _, ⟨T14, L14, k14, n14⟩, -, X14, ⟨Lc14, hQ14, l14, y14, z14⟩, st14⟩ := X13.virtualBack hx (y := (⟨"com/example/deioces/deioces/Datagram", "echoed", "()J"⟩ : MethodName)) (z := (⟨"com/example/deioces/deioces/Datagram", "echoed", "()J"⟩ : MethodName)) hown (mvT hZ (hw _ (List.mem_of_getElem? (i := 69) rfl))) (mvT hZ (hw _ (List.mem_of_getElem? (i := 70) rfl))) (notFace_of_selects (args := #[]) (mvT hZ (hw _ (List.mem_of_getElem? (i := 72) rfl)))) (mvT hZ (hw _ (List.mem_of_getElem? (i := 72) rfl))) (mvT hZ (hw _ (List.mem_of_getElem? (i := 71) rfl))) (by decide) (backOf (W := 0) (rm11_10 l Z a0 hw [] b3_0 p4 T3.heap n0 Z4 G3_4) hZ (hw _ (List.mem_of_getElem? (i := 73) rfl)) (hw _ (List.mem_of_getElem? (i := 30) rfl)) (by decide) (by decide)) q14a q14c (g := (mkF m 63 #[.val (.int p0), .val (.int p1), .val (.long p2), .second, .val (.long p3), .second, .val (.long p4), .second, .val (.long p5), .second, .val (.long (p5 &&& (9223372036854775807 : Int64))), .second, .val (.ref b1_0), .val (.ref b3_0)] [(.ref b3_0)])) rfl (by rw [hml]; rfl) (Steps.refl _) (argsL := []) (rest := []) (lenOf pd___J rfl) rfl (by show 2 * 0 + _ ≤ _; exact Nat.le_of_eq rfl) (hb hby at_63) (fun _ _ => ⟨rfl, e13, (by decide : 2 + 0 ≤ _), (by decide : 9 + 0 ≤ _)⟩)
  dsimp only [Pt.U, Pt.locs, Pt.cells, Pt.slots] at X14 l14 y14 z14 st14 hQ14
  subst l14 y14 z14
  obtain ⟨rfl, N14q, e14⟩ := hQ14
  have N14 := Fr.app N13 N14q
  refine own_tr st14 ?_
  show own_Fin p e below _ (T14.setTop (mkF m 66 #[.val (.int p0), .val (.int p1), .val (.long p2), .second, .val (.long p3), .second, .val (.long p4), .second, .val (.long p5), .second, .val (.long (p5 &&& (9223372036854775807 : Int64))), .second, .val (.ref b1_0), .val (.ref b3_0)] [(.long p4)]))
  refine own_st (fun t k => XS.lload X14.here hx rfl (hb hby at_66) rfl k) ?_
  show own_Fin p e below _ (T14.setTop (mkF m 68 #[.val (.int p0), .val (.int p1), .val (.long p2), .second, .val (.long p3), .second, .val (.long p4), .second, .val (.long p5), .second, .val (.long (p5 &&& (9223372036854775807 : Int64))), .second, .val (.ref b1_0), .val (.ref b3_0)] [(.long p4), (.long p4)]))
  refine own_st (fun t k => XS.lcmp X14.here hx rfl (hb hby at_68) rfl k) ?_
  show own_Fin p e below _ (T14.setTop (mkF m 69 #[.val (.int p0), .val (.int p1), .val (.long p2), .second, .val (.long p3), .second, .val (.long p4), .second, .val (.long p5), .second, .val (.long (p5 &&& (9223372036854775807 : Int64))), .second, .val (.ref b1_0), .val (.ref b3_0)] [(.int (lcmpW p4 p4))]))
  refine own_st (fun t k => XS.ifNo X14.here hx rfl (hb hby at_69) rfl ((if0 _ _).trans (teq ((lw_eq p4 p4).2 rfl)).2) k) ?_
  show own_Fin p e below _ (T14.setTop (mkF m 72 #[.val (.int p0), .val (.int p1), .val (.long p2), .second, .val (.long p3), .second, .val (.long p4), .second, .val (.long p5), .second, .val (.long (p5 &&& (9223372036854775807 : Int64))), .second, .val (.ref b1_0), .val (.ref b3_0)] []))
  refine own_st (fun t k => XS.aload X14.here hx rfl (hb hby at_72) rfl rfl k) ?_
  show own_Fin p e below _ (T14.setTop (mkF m 74 #[.val (.int p0), .val (.int p1), .val (.long p2), .second, .val (.long p3), .second, .val (.long p4), .second, .val (.long p5), .second, .val (.long (p5 &&& (9223372036854775807 : Int64))), .second, .val (.ref b1_0), .val (.ref b3_0)] [(.ref b3_0)]))
  obtain ⟨cq15, kq15, q15a, q15b, q15c⟩ := isOf hZ e14 G3_0
  obtain ⟨_, _, ⟨T15, L15, k15, n15⟩, -, X15, ⟨Lc15, hQ15, l15, y15, z15⟩, st15⟩ := X14.virtualBack hx (y := (⟨"com/example/deioces/deioces/Datagram", "held", "()J"⟩ : MethodName)) (z := (⟨"com/example/deioces/deioces/Datagram", "held", "()J"⟩ : MethodName)) hown (mvT hZ (hw _ (List.mem_of_getElem? (i := 74) rfl))) (mvT hZ (hw _ (List.mem_of_getElem? (i := 75) rfl))) (notFace_of_selects (args := #[]) (mvT hZ (hw _ (List.mem_of_getElem? (i := 77) rfl)))) (mvT hZ (hw _ (List.mem_of_getElem? (i := 77) rfl))) (mvT hZ (hw _ (List.mem_of_getElem? (i := 76) rfl))) (by decide) (backOf (W := 0) (rm12_11 l Z a0 hw [] b3_0 (p5 &&& (9223372036854775807 : Int64)) T3.heap n0 Z4 G3_5) hZ (hw _ (List.mem_of_getElem? (i := 78) rfl)) (hw _ (List.mem_of_getElem? (i := 30) rfl)) (by decide) (by decide)) q15a q15c (g := (mkF m 74 #[.val (.int p0), .val (.int p1), .val (.long p2), .second, .val (.long p3), .second, .val (.long p4), .second, .val (.long p5), .second, .val (.long (p5 &&& (9223372036854775807 : Int64))), .second, .val (.ref b1_0), .val (.ref b3_0)] [(.ref b3_0)])) rfl (by rw [hml]; rfl) (Steps.refl _) (argsL := []) (rest := []) (lenOf pd___J rfl) rfl (by show 2 * 0 + _ ≤ _; exact Nat.le_of_eq rfl) (hb hby at_74) (fun _ _ => ⟨rfl, e14, (by decide : 2 + 0 ≤ _), (by decide : 9 + 0 ≤ _)⟩)
  dsimp only [Pt.U, Pt.locs, Pt.cells, Pt.slots] at X15 l15 y15 z15 st15 hQ15
  subst l15 y15 z15
  obtain ⟨rfl, N15q, e15⟩ := hQ15
  have N15 := Fr.app N14 N15q
  refine own_tr st15 ?_
  show own_Fin p e below _ (T15.setTop (mkF m 77 #[.val (.int p0), .val (.int p1), .val (.long p2), .second, .val (.long p3), .second, .val (.long p4), .second, .val (.long p5), .second, .val (.long (p5 &&& (9223372036854775807 : Int64))), .second, .val (.ref b1_0), .val (.ref b3_0)] [(.long (p5 &&& (9223372036854775807 : Int64)))]))
  refine own_st (fun t k => XS.lload X15.here hx rfl (hb hby at_77) rfl k) ?_
  show own_Fin p e below _ (T15.setTop (mkF m 79 #[.val (.int p0), .val (.int p1), .val (.long p2), .second, .val (.long p3), .second, .val (.long p4), .second, .val (.long p5), .second, .val (.long (p5 &&& (9223372036854775807 : Int64))), .second, .val (.ref b1_0), .val (.ref b3_0)] [(.long (p5 &&& (9223372036854775807 : Int64))), (.long (p5 &&& (9223372036854775807 : Int64)))]))
  refine own_st (fun t k => XS.lcmp X15.here hx rfl (hb hby at_79) rfl k) ?_
  show own_Fin p e below _ (T15.setTop (mkF m 80 #[.val (.int p0), .val (.int p1), .val (.long p2), .second, .val (.long p3), .second, .val (.long p4), .second, .val (.long p5), .second, .val (.long (p5 &&& (9223372036854775807 : Int64))), .second, .val (.ref b1_0), .val (.ref b3_0)] [(.int (lcmpW (p5 &&& (9223372036854775807 : Int64)) (p5 &&& (9223372036854775807 : Int64))))]))
  refine own_st (fun t k => XS.ifNo X15.here hx rfl (hb hby at_80) rfl ((if0 _ _).trans (teq ((lw_eq (p5 &&& (9223372036854775807 : Int64)) (p5 &&& (9223372036854775807 : Int64))).2 rfl)).2) k) ?_
  show own_Fin p e below _ (T15.setTop (mkF m 83 #[.val (.int p0), .val (.int p1), .val (.long p2), .second, .val (.long p3), .second, .val (.long p4), .second, .val (.long p5), .second, .val (.long (p5 &&& (9223372036854775807 : Int64))), .second, .val (.ref b1_0), .val (.ref b3_0)] []))
  refine own_st (fun t k => XS.iconst X15.here hx rfl (hb hby at_83) k) ?_
  show own_Fin p e below _ (T15.setTop (mkF m 84 #[.val (.int p0), .val (.int p1), .val (.long p2), .second, .val (.long p3), .second, .val (.long p4), .second, .val (.long p5), .second, .val (.long (p5 &&& (9223372036854775807 : Int64))), .second, .val (.ref b1_0), .val (.ref b3_0)] [(.int (1 : Int32))]))
  refine own_st (fun t k => XS.goto X15.here hx rfl (pc0 := 84) (pc' := 88) rfl (hb hby at_84) (by decide) (by decide) k) ?_
  show own_Fin p e below _ (T15.setTop (mkF m 88 #[.val (.int p0), .val (.int p1), .val (.long p2), .second, .val (.long p3), .second, .val (.long p4), .second, .val (.long p5), .second, .val (.long (p5 &&& (9223372036854775807 : Int64))), .second, .val (.ref b1_0), .val (.ref b3_0)] [(.int (1 : Int32))]))
  obtain ⟨fs, hr, hrun, hended, hW, hsame⟩ := X15.leave (v := some (.int (1 : Int32))) (fun h => by rw [Bd.returns] at h; cases h)
  exact ⟨_, _, retN X15 hx (t := .boolean) Bd.returns (by simp) (hb hby at_88) hr, hrun, hended, _, _, rfl, ⟨rfl, N15⟩, ⟨_, rfl⟩, hW, hsame.mono (by decide) (by decide)⟩
theorem rm0 (l : Launch) (Z : State) (a0 : Array Value) (hw : ∀ d ∈ tables_1, d.before a0 Z = true) (ws : List Jvm.Cond) (w_ELECTION : Addr) (w_RELEASE : Addr) (w_HEARTBEAT : Addr) (w_REPLY : Addr) (p0 : Int32) (p1 : Int32) (p2 : Int64) (p3 : Int64) (p4 : Int64) (p5 : Int64) (h0 : Heap) (n0 : Nat) (Z0 : n0 ≤ Array.size h0) (PN : own_Pins Z h0 w_ELECTION w_RELEASE w_HEARTBEAT w_REPLY) :
    MetFree l x (head1 (Jvm.Cond.code x code maxLocals ret :: ws) room_1) (fun a U => a = #[(.int p0), (.int p1), (.long p2), (.long p3), (.long p4), (.long p5)] ∧ Z.Warmed39 U.vm ∧ U.heap = h0) (fun _ _ _ _ _ => True) (fun _ U o U' => ∃ v L, o = .returned v ∧ own_Q0 n0 (some (.int (1 : Int32))) v U'.heap L ∧ FrameEnd U o U' L room_1.cells room_1.slots) := by
  rcases own_mask4 p0 with q0 | q0 | q0 | q0
  · exact rm0_c00 l Z a0 hw ws w_ELECTION w_RELEASE w_HEARTBEAT w_REPLY p0 p1 p2 p3 p4 p5 h0 n0 Z0 PN q0
  · by_cases q1 : (p0 &&& (4 : Int32)) = (0 : Int32)
    · exact rm0_c10 l Z a0 hw ws w_ELECTION w_RELEASE w_HEARTBEAT w_REPLY p0 p1 p2 p3 p4 p5 h0 n0 Z0 PN q0 q1
    · exact rm0_c11 l Z a0 hw ws w_ELECTION w_RELEASE w_HEARTBEAT w_REPLY p0 p1 p2 p3 p4 p5 h0 n0 Z0 PN q0 q1
  · exact rm0_c20 l Z a0 hw ws w_ELECTION w_RELEASE w_HEARTBEAT w_REPLY p0 p1 p2 p3 p4 p5 h0 n0 Z0 PN q0
  · exact rm0_c30 l Z a0 hw ws w_ELECTION w_RELEASE w_HEARTBEAT w_REPLY p0 p1 p2 p3 p4 p5 h0 n0 Z0 PN q0
set_option maxRecDepth 65536 in
set_option maxHeartbeats 40000000 in
theorem comes_1 {Post : Tables → Env → Array Value → State → Outcome → State → Prop} (hpost : ∀ tb e args s v u, (limb_1_1.after args s (.returned v) u = true ∧ limb_1_2.after args s (.returned v) u = true ∧ True) → FrameEnd s (.returned v) u (Jvm.fieldLocs frame_1_writes args s ++ Jvm.arrayLocs frame_1_arrays args s ++ Jvm.staticLocs frame_1_statics s) 16 128 → Post tb e args s (.returned v) u) :
    ArmFor flags0 classFile x code maxLocals ret World_1 tables_1 room_1 Calls_1 rest_1 Pre_1 Post := by
  intro l hfl _ _ p e ha hc hk s m args below hf hA hF happ hP
  obtain ⟨hcalls, hrest, hpre⟩ := hP
  obtain ⟨-, -, -, hnamed, -, -, -, hat⟩ := (Spec.applies_iff hf).mp happ
  obtain ⟨hg, hn⟩ := and_e (Cond.before_iff.mp (show (Jvm.Cond.and given_1 narrow_1).before args s = true from hpre))
  obtain ⟨hgl, hgr⟩ := and_e hg
  obtain ⟨hgrl, hgrr⟩ := and_e hgr
  obtain ⟨hgrrl, hgrrr⟩ := and_e hgrr
  obtain ⟨hgrrrl, hgrrrr⟩ := and_e hgrrr
  obtain ⟨hgrrrrl, hgrrrrr⟩ := and_e hgrrrr
  obtain ⟨hgrrrrrl, hgrrrrrr⟩ := and_e hgrrrrr
  obtain ⟨v0, v1, v2, v3, v4, v5, rfl⟩ : ∃ v0 v1 v2 v3 v4 v5 : Value, args = #[v0, v1, v2, v3, v4, v5] := by
    have hs : args.size = 6 := by simpa [Cond.value, given_1] using hgl
    obtain ⟨L⟩ := args
    match L, hs with
    | [v0, v1, v2, v3, v4, v5], _ => exact ⟨v0, v1, v2, v3, v4, v5, rfl⟩
  have hw := fun d (hd : d ∈ tables_1) => atoms_spec (ws := Jvm.Cond.code x code maxLocals ret :: tables_1) hat d (List.mem_cons_of_mem _ hd)
  have hfit : Fit s := fun {y c} hc i hi => by
    obtain ⟨ha, rfl⟩ := Array.getElem?_eq_some_iff.mp hc
    have q := List.all_eq_true.mp ((Array.all_eq_true_iff_forall_mem.mp hF) _ (Array.getElem_mem ha)) i (List.mem_range.mpr hi)
    simpa [Array.getElem?_eq_getElem hi] using q
  obtain ⟨p0, ei0⟩ := is_v hgrl
  obtain rfl : v0 = (.int p0) := Option.some.inj ei0
  obtain ⟨p1, ei1⟩ := is_v hgrrl
  obtain rfl : v1 = (.int p1) := Option.some.inj ei1
  obtain ⟨p2, ei2⟩ := isL_v hgrrrl
  obtain rfl : v2 = (.long p2) := Option.some.inj ei2
  obtain ⟨p3, ei3⟩ := isL_v hgrrrrl
  obtain rfl : v3 = (.long p3) := Option.some.inj ei3
  obtain ⟨p4, ei4⟩ := isL_v hgrrrrrl
  obtain rfl : v4 = (.long p4) := Option.some.inj ei4
  obtain ⟨p5, ei5⟩ := isL_v hgrrrrrr
  obtain rfl : v5 = (.long p5) := Option.some.inj ei5
  obtain ⟨hnl, hnr⟩ := and_e hn
  obtain ⟨hnrl, hnrr⟩ := and_e hnr
  obtain ⟨hnrrl, hnrrr⟩ := and_e hnrr
  obtain ⟨w_ELECTION, ev_ELECTION⟩ := exa_v hnl
  have S_ELECTION := Sta.start ev_ELECTION (Or.inr ⟨(hw _ (List.mem_of_getElem? (i := 12) rfl)), (hw _ (List.mem_of_getElem? (i := 13) rfl))⟩)
  have E_ELECTION := Exa.start ev_ELECTION hnl
  obtain ⟨w_RELEASE, ev_RELEASE⟩ := exa_v hnrl
  have S_RELEASE := Sta.start ev_RELEASE (Or.inr ⟨(hw _ (List.mem_of_getElem? (i := 12) rfl)), (hw _ (List.mem_of_getElem? (i := 83) rfl))⟩)
  have E_RELEASE := Exa.start ev_RELEASE hnrl
  obtain ⟨w_HEARTBEAT, ev_HEARTBEAT⟩ := exa_v hnrrl
  have S_HEARTBEAT := Sta.start ev_HEARTBEAT (Or.inr ⟨(hw _ (List.mem_of_getElem? (i := 12) rfl)), (hw _ (List.mem_of_getElem? (i := 88) rfl))⟩)
  have E_HEARTBEAT := Exa.start ev_HEARTBEAT hnrrl
  obtain ⟨w_REPLY, ev_REPLY⟩ := exa_v hnrrr
  have S_REPLY := Sta.start ev_REPLY (Or.inr ⟨(hw _ (List.mem_of_getElem? (i := 12) rfl)), (hw _ (List.mem_of_getElem? (i := 93) rfl))⟩)
  have E_REPLY := Exa.start ev_REPLY hnrrr
  obtain ⟨n, o, h1, h2, h3, _, L, rfl, ⟨rfl, N⟩, hq⟩ := rm0 l s _ hw tables_1 w_ELECTION w_RELEASE w_HEARTBEAT w_REPLY p0 p1 p2 p3 p4 p5 s.heap s.heap.size (Nat.le_refl _) (by exact ⟨S_ELECTION, E_ELECTION, S_RELEASE, E_RELEASE, S_HEARTBEAT, E_HEARTBEAT, S_REPLY, E_REPLY⟩) p e ha hc hk s m _ below hf ((Spec.applies_iff_loose hf).mp happ).1 ⟨rfl, State.Warmed39.refl s, rfl⟩ trivial
  refine ⟨n, _, h1, h2, h3, hpost _ _ _ _ _ _ ⟨Cond.after_iff.mpr rfl, Cond.after_iff.mpr (eq_i res_at (Term.int_eval (1)) rfl), trivial⟩ ⟨hq.1, hq.2.1, (hq.2.2.sift fun y hy => Or.inr (N y hy)).mono (by decide) (by decide)⟩⟩
theorem main_1_1 : Claimed_1_1 := comes_1 fun _ _ _ _ _ _ h hF => ⟨h.1, hF⟩
theorem main_1_2 : Claimed_1_2 := comes_1 fun _ _ _ _ _ _ h hF => ⟨h.2.1, hF⟩
end Jvm.Pilot.@@N@@
namespace Jvm.Pilot.@@N@@
open Jvm Jvm.ClassFile Sem Op Lib Jvm.Free Jvm.Stand Jvm.Pilot.@@N@@.Jvm.D
/-! MADE BY PROGRAM (witnessworld.py) out of the Statement's table words and the real class files: 14 classes; the members and pool entries that the words name. The judged class is class 1, her method 2. -/
namespace start1
open Jvm.ClassFile
def u (s : String) : CpInfo := .utf8 (stringToUtf16 s)
/-- a pool by its gaps: so many unusable entries, then the entry; so many at the end -/
def gap : Nat → List CpInfo → List CpInfo
  | 0, r => r
  | n + 1, r => .unusable :: gap n r
def poolList (es : List (Nat × CpInfo)) (last : Nat) : List CpInfo := es.foldr (fun e r => gap e.1 (e.2 :: r)) (gap last [])
def pool (es : List (Nat × CpInfo)) (last : Nat) : Array CpInfo := ⟨poolList es last⟩
def fileOf (pool : Array CpInfo) (this : Nat) (attrs : Array Attribute := #[]) (ms : Array MethodInfo := #[]) (fl : Nat := 33) (sup : Nat := 0) (ifs : Array Nat := #[]) (fds : Array FieldInfo := #[]) : ClassFile where
  minorVersion := 0
  majorVersion := 65
  constantPool := pool
  accessFlags := fl
  thisClass := this
  superClass := sup
  interfaces := ifs
  fields := fds
  methods := ms
  attributes := attrs
def plain (name : String) (sup : Option ClassId) : Class where
  name := name
  kind := .ordinary
  loader := none
  accessFlags := 33
  super := sup
  interfaces := #[]
  cf := none
  fields := #[]
  methods := #[]
  instanceTypes := #[]
  staticTypes := #[]
  resolved := #[]
  callSites := []
  init := .initialized
  statics := none
  mirror := none

def pool0 : Array CpInfo := pool [(5, u "<init>"), (0, u "()V"), (1, .class_ 10), (1, u "java/lang/Object")] 113

def k0c0 : Code := { maxStack := 0, maxLocals := 1, code := object_method_1_code, exceptionTable := #[], attributes := #[] }
def k0m0 : Method := { name := "<init>", desc := "()V", sig := { parameters := [], returnType := none }, accessFlags := 1, code := some k0c0 }
/-- java/lang/Object -/
def k0 : Class := { plain "java/lang/Object" none with
  accessFlags := 33
  interfaces := #[]
  cf := some (fileOf pool0 8 #[] #[{ accessFlags := 1, nameIndex := 5, descriptorIndex := 6, attributes := #[] }] 33 0 #[] #[])
  fields := #[]
  methods := #[k0m0]
  instanceTypes := #[]
  staticTypes := #[]
  resolved := Array.replicate 124 none
  statics := none }

def pool1 : Array CpInfo := pool [(2, .class_ 4), (1, u "java/lang/Object"), (0, u "<init>"), (0, u "()V"), (0, .methodref 8 9), (0, .class_ 10), (0, .nameAndType 11 12), (0, u "com/example/deioces/deioces/Message"), (0, u "election"), (0, u "(IJ)Lcom/example/deioces/deioces/Message;"), (0, .methodref 8 14), (0, .nameAndType 15 16), (0, u "reply"), (0, u "(IJZ)Lcom/example/deioces/deioces/Message;"), (0, .methodref 8 18), (0, .nameAndType 19 12), (0, u "release"), (0, .methodref 8 21), (0, .nameAndType 22 23), (0, u "heartbeat"), (0, u "(I)Lcom/example/deioces/deioces/Message;"), (2, .long 9223372036854775807), (1, .methodref 29 30), (0, .class_ 31), (0, .nameAndType 32 33), (0, u "com/example/deioces/deioces/DatagramEchoingPinLaw"), (0, u "makeMessage"), (0, u "(IIJ)Lcom/example/deioces/deioces/Message;"), (0, .methodref 35 36), (0, .class_ 37), (0, .nameAndType 38 39), (0, u "com/example/deioces/deioces/Datagram"), (0, u "echoing"), (0, u "(Lcom/example/deioces/deioces/Message;JJJ)Lcom/example/deioces/deioces/Datagram;"), (0, .methodref 35 41), (0, .nameAndType 42 43), (0, u "message"), (0, u "()Lcom/example/deioces/deioces/Message;"), (0, .methodref 8 45), (0, .nameAndType 46 47), (0, u "equals"), (0, u "(Ljava/lang/Object;)Z"), (0, .methodref 35 49), (0, .nameAndType 50 51), (0, u "sent"), (0, u "()J"), (0, .methodref 35 53), (0, .nameAndType 54 55), (0, u "echoes"), (0, u "()Z"), (0, .methodref 35 57), (0, .nameAndType 58 51), (0, u "echoed"), (0, .methodref 35 60), (0, .nameAndType 61 51), (0, u "held"), (3, u "law"), (0, u "(IIJJJJ)Z")] 2

def k1m0 : Method := { name := "<init>", desc := "()V", sig := { parameters := [], returnType := none }, accessFlags := 1, code := none }
def k1c1 : Code := { maxStack := 5, maxLocals := 5, code := method_2_code, exceptionTable := #[], attributes := #[] }
def k1m1 : Method := { name := "makeMessage", desc := "(IIJ)Lcom/example/deioces/deioces/Message;", sig := { parameters := [.int, .int, .long], returnType := some (.object "com/example/deioces/deioces/Message") }, accessFlags := 10, code := some k1c1 }
def k1c2 : Code := { maxStack := 7, maxLocals := 14, code := code, exceptionTable := #[], attributes := #[] }
def k1m2 : Method := { name := "law", desc := "(IIJJJJ)Z", sig := { parameters := [.int, .int, .long, .long, .long, .long], returnType := some .boolean }, accessFlags := 9, code := some k1c2 }
/-- com/example/deioces/deioces/DatagramEchoingPinLaw -/
def k1 : Class := { plain "com/example/deioces/deioces/DatagramEchoingPinLaw" (some 0) with
  accessFlags := 49
  interfaces := #[]
  cf := some (fileOf pool1 29 #[] #[{ accessFlags := 1, nameIndex := 5, descriptorIndex := 6, attributes := #[] }, { accessFlags := 10, nameIndex := 32, descriptorIndex := 33, attributes := #[] }, { accessFlags := 9, nameIndex := 65, descriptorIndex := 66, attributes := #[] }] 49 2 #[] #[])
  fields := #[]
  methods := #[k1m0, k1m1, k1m2]
  instanceTypes := #[]
  staticTypes := #[]
  resolved := Array.replicate 69 none
  statics := none }

def pool2 : Array CpInfo := pool [(1, .methodref 2 3), (0, .class_ 4), (0, .nameAndType 5 6), (0, u "java/lang/Object"), (0, u "<init>"), (0, u "()V"), (0, .fieldref 8 9), (0, .class_ 10), (0, .nameAndType 11 12), (0, u "com/example/deioces/deioces/Message"), (0, u "kind"), (0, u "Lcom/example/deioces/deioces/Message$Kind;"), (0, .fieldref 8 14), (0, .nameAndType 15 16), (0, u "sender"), (0, u "I"), (0, .fieldref 8 18), (0, .nameAndType 19 20), (0, u "stamp"), (0, u "J"), (0, .fieldref 8 22), (0, .nameAndType 23 24), (0, u "supportive"), (0, u "Z"), (0, .fieldref 26 27), (0, .class_ 28), (0, .nameAndType 29 12), (0, u "com/example/deioces/deioces/Message$Kind"), (0, u "ELECTION"), (0, .methodref 8 31), (0, .nameAndType 5 32), (0, u "(Lcom/example/deioces/deioces/Message$Kind;IJZ)V"), (0, .fieldref 26 34), (0, .nameAndType 35 12), (0, u "REPLY"), (0, .fieldref 26 37), (0, .nameAndType 38 12), (0, u "RELEASE"), (0, .fieldref 26 40), (0, .nameAndType 41 12), (0, u "HEARTBEAT"), (42, u "election"), (0, u "(IJ)Lcom/example/deioces/deioces/Message;"), (0, u "reply"), (0, u "(IJZ)Lcom/example/deioces/deioces/Message;"), (0, u "release"), (0, u "heartbeat"), (0, u "(I)Lcom/example/deioces/deioces/Message;"), (4, u "equals"), (0, u "(Ljava/lang/Object;)Z")] 25

def k2c0 : Code := { maxStack := 3, maxLocals := 6, code := prog_31_method_1_code, exceptionTable := #[], attributes := #[] }
def k2m0 : Method := { name := "<init>", desc := "(Lcom/example/deioces/deioces/Message$Kind;IJZ)V", sig := { parameters := [(.object "com/example/deioces/deioces/Message$Kind"), .int, .long, .boolean], returnType := none }, accessFlags := 0, code := some k2c0 }
def k2c1 : Code := { maxStack := 7, maxLocals := 3, code := prog_31_method_2_code, exceptionTable := #[], attributes := #[] }
def k2m1 : Method := { name := "election", desc := "(IJ)Lcom/example/deioces/deioces/Message;", sig := { parameters := [.int, .long], returnType := some (.object "com/example/deioces/deioces/Message") }, accessFlags := 8, code := some k2c1 }
def k2c2 : Code := { maxStack := 7, maxLocals := 4, code := prog_31_method_3_code, exceptionTable := #[], attributes := #[] }
def k2m2 : Method := { name := "reply", desc := "(IJZ)Lcom/example/deioces/deioces/Message;", sig := { parameters := [.int, .long, .boolean], returnType := some (.object "com/example/deioces/deioces/Message") }, accessFlags := 8, code := some k2c2 }
def k2c3 : Code := { maxStack := 7, maxLocals := 3, code := prog_31_method_4_code, exceptionTable := #[], attributes := #[] }
def k2m3 : Method := { name := "release", desc := "(IJ)Lcom/example/deioces/deioces/Message;", sig := { parameters := [.int, .long], returnType := some (.object "com/example/deioces/deioces/Message") }, accessFlags := 8, code := some k2c3 }
def k2c4 : Code := { maxStack := 7, maxLocals := 1, code := prog_31_method_5_code, exceptionTable := #[], attributes := #[] }
def k2m4 : Method := { name := "heartbeat", desc := "(I)Lcom/example/deioces/deioces/Message;", sig := { parameters := [.int], returnType := some (.object "com/example/deioces/deioces/Message") }, accessFlags := 8, code := some k2c4 }
def k2c5 : Code := { maxStack := 4, maxLocals := 3, code := prog_31_method_10_code, exceptionTable := #[], attributes := #[] }
def k2m5 : Method := { name := "equals", desc := "(Ljava/lang/Object;)Z", sig := { parameters := [(.object "java/lang/Object")], returnType := some .boolean }, accessFlags := 1, code := some k2c5 }
/-- com/example/deioces/deioces/Message -/
def k2 : Class := { plain "com/example/deioces/deioces/Message" (some 0) with
  accessFlags := 32
  interfaces := #[]
  cf := some (fileOf pool2 8 #[.nestMembers #[26]] #[{ accessFlags := 0, nameIndex := 5, descriptorIndex := 32, attributes := #[] }, { accessFlags := 8, nameIndex := 84, descriptorIndex := 85, attributes := #[] }, { accessFlags := 8, nameIndex := 86, descriptorIndex := 87, attributes := #[] }, { accessFlags := 8, nameIndex := 88, descriptorIndex := 85, attributes := #[] }, { accessFlags := 8, nameIndex := 89, descriptorIndex := 90, attributes := #[] }, { accessFlags := 1, nameIndex := 95, descriptorIndex := 96, attributes := #[] }] 32 2 #[] #[{ accessFlags := 18, nameIndex := 11, descriptorIndex := 12, attributes := #[] }, { accessFlags := 18, nameIndex := 15, descriptorIndex := 16, attributes := #[] }, { accessFlags := 18, nameIndex := 19, descriptorIndex := 20, attributes := #[] }, { accessFlags := 18, nameIndex := 23, descriptorIndex := 24, attributes := #[] }])
  fields := #[{ name := "kind", type := (.object "com/example/deioces/deioces/Message$Kind"), accessFlags := 18, slot := 0, constantValue := 0 }, { name := "sender", type := .int, accessFlags := 18, slot := 1, constantValue := 0 }, { name := "stamp", type := .long, accessFlags := 18, slot := 2, constantValue := 0 }, { name := "supportive", type := .boolean, accessFlags := 18, slot := 3, constantValue := 0 }]
  methods := #[k2m0, k2m1, k2m2, k2m3, k2m4, k2m5]
  instanceTypes := #[(.object "com/example/deioces/deioces/Message$Kind"), .int, .long, .boolean]
  staticTypes := #[]
  resolved := Array.replicate 122 none
  statics := none }

def pool3 : Array CpInfo := pool [(1, .class_ 2), (0, u "java/lang/constant/Constable"), (0, .class_ 4), (0, u "java/lang/Object")] 6

/-- java/lang/constant/Constable -/
def k3 : Class := { plain "java/lang/constant/Constable" (some 0) with
  accessFlags := 1537
  interfaces := #[]
  cf := some (fileOf pool3 1 #[] #[] 1537 3 #[] #[])
  fields := #[]
  methods := #[]
  instanceTypes := #[]
  staticTypes := #[]
  resolved := Array.replicate 11 none
  statics := none }

def pool4 : Array CpInfo := pool [(1, .class_ 2), (0, u "java/lang/Comparable"), (0, .class_ 4), (0, u "java/lang/Object")] 7

/-- java/lang/Comparable -/
def k4 : Class := { plain "java/lang/Comparable" (some 0) with
  accessFlags := 1537
  interfaces := #[]
  cf := some (fileOf pool4 1 #[] #[] 1537 3 #[] #[])
  fields := #[]
  methods := #[]
  instanceTypes := #[]
  staticTypes := #[]
  resolved := Array.replicate 12 none
  statics := none }

def pool5 : Array CpInfo := pool [(1, .class_ 2), (0, u "java/io/Serializable"), (0, .class_ 4), (0, u "java/lang/Object")] 2

/-- java/io/Serializable -/
def k5 : Class := { plain "java/io/Serializable" (some 0) with
  accessFlags := 1537
  interfaces := #[]
  cf := some (fileOf pool5 1 #[] #[] 1537 3 #[] #[])
  fields := #[]
  methods := #[]
  instanceTypes := #[]
  staticTypes := #[]
  resolved := Array.replicate 7 none
  statics := none }

def pool6 : Array CpInfo := pool [(2, .class_ 4), (1, u "java/lang/Enum"), (0, u "name"), (0, u "Ljava/lang/String;"), (2, u "ordinal"), (0, u "I"), (1, .class_ 14), (1, u "java/lang/Object"), (4, u "hash"), (86, .class_ 108), (1, u "java/lang/Enum$EnumDesc"), (2, .class_ 112), (0, u "java/lang/constant/Constable"), (0, .class_ 114), (0, u "java/lang/Comparable"), (0, .class_ 116), (0, u "java/io/Serializable")] 87

/-- java/lang/Enum -/
def k6 : Class := { plain "java/lang/Enum" (some 0) with
  accessFlags := 1057
  interfaces := #[3, 4, 5]
  cf := some (fileOf pool6 2 #[.nestMembers #[106]] #[] 1057 12 #[111, 113, 115] #[{ accessFlags := 18, nameIndex := 5, descriptorIndex := 6, attributes := #[] }, { accessFlags := 18, nameIndex := 9, descriptorIndex := 10, attributes := #[] }, { accessFlags := 2, nameIndex := 19, descriptorIndex := 10, attributes := #[] }])
  fields := #[{ name := "name", type := (.object "java/lang/String"), accessFlags := 18, slot := 0, constantValue := 0 }, { name := "ordinal", type := .int, accessFlags := 18, slot := 1, constantValue := 0 }, { name := "hash", type := .int, accessFlags := 2, slot := 2, constantValue := 0 }]
  methods := #[]
  instanceTypes := #[(.object "java/lang/String"), .int, .int]
  staticTypes := #[]
  resolved := Array.replicate 204 none
  statics := none }

def pool7 : Array CpInfo := pool [(1, .class_ 2), (0, u "com/example/deioces/deioces/Message$Kind"), (2, u "ELECTION"), (0, u "Lcom/example/deioces/deioces/Message$Kind;"), (2, u "REPLY"), (2, u "RELEASE"), (2, u "HEARTBEAT"), (2, u "$VALUES"), (0, u "[Lcom/example/deioces/deioces/Message$Kind;"), (6, .class_ 28), (1, u "java/lang/Enum"), (8, u "code"), (0, u "I"), (2, u "bodyLength"), (41, .class_ 84), (0, u "com/example/deioces/deioces/Message")] 2

/-- com/example/deioces/deioces/Message$Kind -/
def k7 : Class := { plain "com/example/deioces/deioces/Message$Kind" (some 6) with
  accessFlags := 16432
  interfaces := #[]
  cf := some (fileOf pool7 1 #[.nestHost 83] #[] 16432 26 #[] #[{ accessFlags := 16409, nameIndex := 5, descriptorIndex := 6, attributes := #[] }, { accessFlags := 16409, nameIndex := 9, descriptorIndex := 6, attributes := #[] }, { accessFlags := 16409, nameIndex := 12, descriptorIndex := 6, attributes := #[] }, { accessFlags := 16409, nameIndex := 15, descriptorIndex := 6, attributes := #[] }, { accessFlags := 18, nameIndex := 37, descriptorIndex := 38, attributes := #[] }, { accessFlags := 18, nameIndex := 41, descriptorIndex := 38, attributes := #[] }, { accessFlags := 4122, nameIndex := 18, descriptorIndex := 19, attributes := #[] }])
  fields := #[{ name := "ELECTION", type := (.object "com/example/deioces/deioces/Message$Kind"), accessFlags := 16409, slot := 0, constantValue := 0 }, { name := "REPLY", type := (.object "com/example/deioces/deioces/Message$Kind"), accessFlags := 16409, slot := 1, constantValue := 0 }, { name := "RELEASE", type := (.object "com/example/deioces/deioces/Message$Kind"), accessFlags := 16409, slot := 2, constantValue := 0 }, { name := "HEARTBEAT", type := (.object "com/example/deioces/deioces/Message$Kind"), accessFlags := 16409, slot := 3, constantValue := 0 }, { name := "code", type := .int, accessFlags := 18, slot := 3, constantValue := 0 }, { name := "bodyLength", type := .int, accessFlags := 18, slot := 4, constantValue := 0 }, { name := "$VALUES", type := (.array (.object "com/example/deioces/deioces/Message$Kind")), accessFlags := 4122, slot := 4, constantValue := 0 }]
  methods := #[]
  instanceTypes := #[(.object "java/lang/String"), .int, .int, .int, .int]
  staticTypes := #[(.object "com/example/deioces/deioces/Message$Kind"), (.object "com/example/deioces/deioces/Message$Kind"), (.object "com/example/deioces/deioces/Message$Kind"), (.object "com/example/deioces/deioces/Message$Kind"), (.array (.object "com/example/deioces/deioces/Message$Kind"))]
  resolved := Array.replicate 87 none
  statics := some 0 }

def pool8 : Array CpInfo := pool [(1, .methodref 2 3), (0, .class_ 4), (0, .nameAndType 5 6), (0, u "java/lang/Object"), (0, u "<init>"), (0, u "()V"), (0, .fieldref 8 9), (0, .class_ 10), (0, .nameAndType 11 12), (0, u "com/example/deioces/deioces/Datagram"), (0, u "message"), (0, u "Lcom/example/deioces/deioces/Message;"), (0, .fieldref 8 14), (0, .nameAndType 15 16), (0, u "sent"), (0, u "J"), (0, .fieldref 8 18), (0, .nameAndType 19 20), (0, u "echoes"), (0, u "Z"), (0, .fieldref 8 22), (0, .nameAndType 23 16), (0, u "echoed"), (0, .fieldref 8 25), (0, .nameAndType 26 16), (0, u "held"), (0, .methodref 8 28), (0, .nameAndType 5 29), (0, u "(Lcom/example/deioces/deioces/Message;JZJJ)V"), (36, u "()J"), (6, u "()Z"), (76, u "MAX_LENGTH"), (0, u "I"), (0, u "VERSION"), (2, u "HEADER_LENGTH"), (5, u "echoing"), (0, u "(Lcom/example/deioces/deioces/Message;JJJ)Lcom/example/deioces/deioces/Datagram;"), (0, u "()Lcom/example/deioces/deioces/Message;")] 31

def k8c0 : Code := { maxStack := 3, maxLocals := 9, code := prog_14_method_1_code, exceptionTable := #[], attributes := #[] }
def k8m0 : Method := { name := "<init>", desc := "(Lcom/example/deioces/deioces/Message;JZJJ)V", sig := { parameters := [(.object "com/example/deioces/deioces/Message"), .long, .boolean, .long, .long], returnType := none }, accessFlags := 2, code := some k8c0 }
def k8c1 : Code := { maxStack := 10, maxLocals := 7, code := prog_14_method_3_code, exceptionTable := #[], attributes := #[] }
def k8m1 : Method := { name := "echoing", desc := "(Lcom/example/deioces/deioces/Message;JJJ)Lcom/example/deioces/deioces/Datagram;", sig := { parameters := [(.object "com/example/deioces/deioces/Message"), .long, .long, .long], returnType := some (.object "com/example/deioces/deioces/Datagram") }, accessFlags := 8, code := some k8c1 }
def k8c2 : Code := { maxStack := 1, maxLocals := 1, code := prog_14_method_4_code, exceptionTable := #[], attributes := #[] }
def k8m2 : Method := { name := "message", desc := "()Lcom/example/deioces/deioces/Message;", sig := { parameters := [], returnType := some (.object "com/example/deioces/deioces/Message") }, accessFlags := 0, code := some k8c2 }
def k8c3 : Code := { maxStack := 2, maxLocals := 1, code := prog_14_method_5_code, exceptionTable := #[], attributes := #[] }
def k8m3 : Method := { name := "sent", desc := "()J", sig := { parameters := [], returnType := some .long }, accessFlags := 0, code := some k8c3 }
def k8c4 : Code := { maxStack := 1, maxLocals := 1, code := prog_14_method_6_code, exceptionTable := #[], attributes := #[] }
def k8m4 : Method := { name := "echoes", desc := "()Z", sig := { parameters := [], returnType := some .boolean }, accessFlags := 0, code := some k8c4 }
def k8c5 : Code := { maxStack := 2, maxLocals := 1, code := prog_14_method_7_code, exceptionTable := #[], attributes := #[] }
def k8m5 : Method := { name := "echoed", desc := "()J", sig := { parameters := [], returnType := some .long }, accessFlags := 0, code := some k8c5 }
def k8c6 : Code := { maxStack := 2, maxLocals := 1, code := prog_14_method_8_code, exceptionTable := #[], attributes := #[] }
def k8m6 : Method := { name := "held", desc := "()J", sig := { parameters := [], returnType := some .long }, accessFlags := 0, code := some k8c6 }
/-- com/example/deioces/deioces/Datagram -/
def k8 : Class := { plain "com/example/deioces/deioces/Datagram" (some 0) with
  accessFlags := 32
  interfaces := #[]
  cf := some (fileOf pool8 8 #[] #[{ accessFlags := 2, nameIndex := 5, descriptorIndex := 29, attributes := #[] }, { accessFlags := 8, nameIndex := 161, descriptorIndex := 162, attributes := #[] }, { accessFlags := 0, nameIndex := 11, descriptorIndex := 163, attributes := #[] }, { accessFlags := 0, nameIndex := 15, descriptorIndex := 66, attributes := #[] }, { accessFlags := 0, nameIndex := 19, descriptorIndex := 73, attributes := #[] }, { accessFlags := 0, nameIndex := 23, descriptorIndex := 66, attributes := #[] }, { accessFlags := 0, nameIndex := 26, descriptorIndex := 66, attributes := #[] }] 32 2 #[] #[{ accessFlags := 24, nameIndex := 152, descriptorIndex := 151, attributes := #[] }, { accessFlags := 26, nameIndex := 155, descriptorIndex := 151, attributes := #[] }, { accessFlags := 24, nameIndex := 150, descriptorIndex := 151, attributes := #[] }, { accessFlags := 18, nameIndex := 11, descriptorIndex := 12, attributes := #[] }, { accessFlags := 18, nameIndex := 15, descriptorIndex := 16, attributes := #[] }, { accessFlags := 18, nameIndex := 19, descriptorIndex := 20, attributes := #[] }, { accessFlags := 18, nameIndex := 23, descriptorIndex := 16, attributes := #[] }, { accessFlags := 18, nameIndex := 26, descriptorIndex := 16, attributes := #[] }])
  fields := #[{ name := "VERSION", type := .int, accessFlags := 24, slot := 0, constantValue := 0 }, { name := "HEADER_LENGTH", type := .int, accessFlags := 26, slot := 1, constantValue := 0 }, { name := "MAX_LENGTH", type := .int, accessFlags := 24, slot := 2, constantValue := 0 }, { name := "message", type := (.object "com/example/deioces/deioces/Message"), accessFlags := 18, slot := 0, constantValue := 0 }, { name := "sent", type := .long, accessFlags := 18, slot := 1, constantValue := 0 }, { name := "echoes", type := .boolean, accessFlags := 18, slot := 2, constantValue := 0 }, { name := "echoed", type := .long, accessFlags := 18, slot := 3, constantValue := 0 }, { name := "held", type := .long, accessFlags := 18, slot := 4, constantValue := 0 }]
  methods := #[k8m0, k8m1, k8m2, k8m3, k8m4, k8m5, k8m6]
  instanceTypes := #[(.object "com/example/deioces/deioces/Message"), .long, .boolean, .long, .long]
  staticTypes := #[.int, .int, .int]
  resolved := Array.replicate 195 none
  statics := none }

def pool9 : Array CpInfo := pool [(1, u "java/lang/Cloneable"), (0, .class_ 1), (0, u "java/lang/Object"), (0, .class_ 3)] 3

/-- java/lang/Cloneable -/
def k9 : Class := { plain "java/lang/Cloneable" (some 0) with
  accessFlags := 1537
  interfaces := #[]
  cf := some (fileOf pool9 2 #[] #[] 1537 4 #[] #[])
  fields := #[]
  methods := #[]
  instanceTypes := #[]
  staticTypes := #[]
  resolved := Array.replicate 8 none
  statics := none }

/-- the primitive byte -/
def k10 : Class := { plain "byte" none with kind := .primitive 'B', accessFlags := 0x411 }
/-- [B -/
def k11 : Class := { plain "[B" (some 0) with kind := .array 10 .byte, interfaces := #[9, 5], accessFlags := 1041 }

/-- the primitive int -/
def k12 : Class := { plain "int" none with kind := .primitive 'I', accessFlags := 0x411 }
/-- [I -/
def k13 : Class := { plain "[I" (some 0) with kind := .array 12 .int, interfaces := #[9, 5], accessFlags := 1041 }

def heap : Heap := #[{ cls := 7, slots := #[.ref 1, .ref 4, .ref 2, .ref 3, .null], vm := .statics 7 },
  { cls := 7, slots := #[.null, .int 0, .int 0, .int 0, .int 0], vm := .none },
  { cls := 7, slots := #[.null, .int 0, .int 0, .int 0, .int 0], vm := .none },
  { cls := 7, slots := #[.null, .int 0, .int 0, .int 0, .int 0], vm := .none },
  { cls := 7, slots := #[.null, .int 0, .int 0, .int 0, .int 0], vm := .none }]
def classes : Array Class := #[k0, k1, k2, k3, k4, k5, k6, k7, k8, k9, k10, k11, k12, k13]
def interned : List (Array UInt16 × Addr) := []
def slotsUsed : Nat := 25
def theMethod : MethodId := ⟨1, 2⟩
def args0 : Array Value := #[.int 5, .int 7, .long 9, .long 11, .long 13, .long 15]
def aboutOver (below : List Frame) : State where
  vm := { classes := classes, interned := interned.toArray }
  heap := heap
  slotsUsed := slotsUsed
  threads := #[{ frames := .invoking theMethod args0 :: below }]
def below0 : List Frame := [.native { method := ⟨0, 0⟩, args := #[] }]
def about1 : State := aboutOver below0
def p0 : Program := .bare "" "" ""
def e0 : Env := launch0.env 0 0 0
theorem w_frames : about1.frames = Frame.invoking theMethod args0 :: below0 := rfl
set_option maxRecDepth 65536 in
theorem w_args : argsFit about1.vm theMethod args0 = true := by decide +kernel
set_option maxRecDepth 65536 in
theorem w_heap : heapFits about1 = true := by decide +kernel
set_option maxRecDepth 65536 in
theorem w_runnable : about1.curStatus? = some .runnable := by decide +kernel
set_option maxRecDepth 65536 in
theorem w_alone : about1.alone = true := by decide +kernel
set_option maxRecDepth 65536 in
theorem w_named : about1.methodNamed? x = some theMethod := by decide +kernel
set_option maxRecDepth 65536 in
theorem w_hears : about1.hears theMethod below0 = true := by decide +kernel
set_option maxRecDepth 65536 in
theorem w_ripe : about1.ripe theMethod args0 below0 = true := by decide +kernel
theorem w_running : about1.status = .running := rfl
set_option maxRecDepth 65536 in
theorem w_room : about1.hasRoom e0.platform room_1 = true :=
  launch0.hasRoom_least _ room_1 (by decide +kernel) (by decide +kernel) (by decide +kernel) (by decide +kernel) (by decide +kernel) (by decide +kernel)
theorem allAtoms_all (ts : List Jvm.Cond) (a : Array Jvm.Value) (st : Jvm.State) : (allAtoms ts).before a st = ts.all (fun c => c.before a st) := by
  induction ts with
  | nil => rfl
  | cons c t ih =>
    show (Jvm.Cond.and c (allAtoms t)).before a st = _
    rw [Jvm.Cond.before_and, ih, List.all_cons]
def words1 : List Jvm.Cond := Jvm.Cond.code x code maxLocals ret :: tables_1
/-- a 'code' word, met by the world's own term for the bytes: nothing is compared byte by byte -/
theorem code_word {y : MethodName} {bytes : ByteArray} {mx : Nat} {rt : Option FieldType} {a : Array Value} {s : State} {m : MethodId} {meth : Method} {c : Code} (h1 : s.methodNamed? y = some m) (h2 : s.vm.method? m = some meth) (h3 : meth.code = some c) (h4 : c.code = bytes)
    (h5 : (c.maxLocals == mx && c.exceptionTable.isEmpty && decide (c.maxStack ≤ mostOperands) && decide (meth.sig.returnType = rt) && !meth.locks && decide (parseMethodDescriptor y.desc = some meth.sig)) = true) : (Jvm.Cond.code y bytes mx rt).before a s = true := by
  simp only [Bool.and_eq_true, beq_iff_eq, Bool.not_eq_true', decide_eq_true_eq] at h5
  obtain ⟨⟨⟨⟨⟨g1, g2⟩, g3⟩, g4⟩, g5⟩, g6⟩ := h5
  simp [Cond.before, Cond.holds, Cond.value, h1, h2, h3, h4, g1, g2, g3, g4, g5, g6]
def isCode : Jvm.Cond → Bool
  | .code _ _ _ _ => true
  | _ => false
theorem all_split {L : List Jvm.Cond} {P : Jvm.Cond → Bool} (h1 : L.all (fun c => isCode c || P c) = true) (h2 : ∀ c ∈ L.filter isCode, P c = true) : L.all P = true := by
  refine List.all_eq_true.mpr fun c hc => ?_
  have h := List.all_eq_true.mp h1 c hc
  rcases Bool.eq_false_or_eq_true (isCode c) with hi | hi
  · exact h2 c (List.mem_filter.mpr ⟨hc, hi⟩)
  · simpa [hi] using h
set_option maxRecDepth 65536 in
theorem w_c0 : (Jvm.Cond.code x code maxLocals ret).before args0 about1 = true := code_word (m := ⟨1, 2⟩) (meth := k1m2) (c := k1c2) (by decide +kernel) rfl rfl rfl (by decide +kernel)
set_option maxRecDepth 65536 in
theorem w_c1 : (Jvm.Cond.code ({ cls := "com/example/deioces/deioces/DatagramEchoingPinLaw", name := "makeMessage", desc := "(IIJ)Lcom/example/deioces/deioces/Message;" } : Jvm.MethodName) method_2_code (5 : Nat) (Option.some (Jvm.ClassFile.FieldType.object "com/example/deioces/deioces/Message"))).before args0 about1 = true := code_word (m := ⟨1, 1⟩) (meth := k1m1) (c := k1c1) (by decide +kernel) rfl rfl rfl (by decide +kernel)
set_option maxRecDepth 65536 in
theorem w_c2 : (Jvm.Cond.code ({ cls := "com/example/deioces/deioces/Message", name := "election", desc := "(IJ)Lcom/example/deioces/deioces/Message;" } : Jvm.MethodName) prog_31_method_2_code (3 : Nat) (Option.some (Jvm.ClassFile.FieldType.object "com/example/deioces/deioces/Message"))).before args0 about1 = true := code_word (m := ⟨2, 1⟩) (meth := k2m1) (c := k2c1) (by decide +kernel) rfl rfl rfl (by decide +kernel)
set_option maxRecDepth 65536 in
theorem w_c3 : (Jvm.Cond.code ({ cls := "com/example/deioces/deioces/Message", name := "<init>", desc := "(Lcom/example/deioces/deioces/Message$Kind;IJZ)V" } : Jvm.MethodName) prog_31_method_1_code (6 : Nat) (Option.none : Option Jvm.ClassFile.FieldType)).before args0 about1 = true := code_word (m := ⟨2, 0⟩) (meth := k2m0) (c := k2c0) (by decide +kernel) rfl rfl rfl (by decide +kernel)
set_option maxRecDepth 65536 in
theorem w_c4 : (Jvm.Cond.code ({ cls := "java/lang/Object", name := "<init>", desc := "()V" } : Jvm.MethodName) object_method_1_code (1 : Nat) (Option.none : Option Jvm.ClassFile.FieldType)).before args0 about1 = true := code_word (m := ⟨0, 0⟩) (meth := k0m0) (c := k0c0) (by decide +kernel) rfl rfl rfl (by decide +kernel)
set_option maxRecDepth 65536 in
theorem w_c5 : (Jvm.Cond.code ({ cls := "com/example/deioces/deioces/Datagram", name := "echoing", desc := "(Lcom/example/deioces/deioces/Message;JJJ)Lcom/example/deioces/deioces/Datagram;" } : Jvm.MethodName) prog_14_method_3_code (7 : Nat) (Option.some (Jvm.ClassFile.FieldType.object "com/example/deioces/deioces/Datagram"))).before args0 about1 = true := code_word (m := ⟨8, 1⟩) (meth := k8m1) (c := k8c1) (by decide +kernel) rfl rfl rfl (by decide +kernel)
set_option maxRecDepth 65536 in
theorem w_c6 : (Jvm.Cond.code ({ cls := "com/example/deioces/deioces/Datagram", name := "<init>", desc := "(Lcom/example/deioces/deioces/Message;JZJJ)V" } : Jvm.MethodName) prog_14_method_1_code (9 : Nat) (Option.none : Option Jvm.ClassFile.FieldType)).before args0 about1 = true := code_word (m := ⟨8, 0⟩) (meth := k8m0) (c := k8c0) (by decide +kernel) rfl rfl rfl (by decide +kernel)
set_option maxRecDepth 65536 in
theorem w_c7 : (Jvm.Cond.code ({ cls := "com/example/deioces/deioces/Datagram", name := "message", desc := "()Lcom/example/deioces/deioces/Message;" } : Jvm.MethodName) prog_14_method_4_code (1 : Nat) (Option.some (Jvm.ClassFile.FieldType.object "com/example/deioces/deioces/Message"))).before args0 about1 = true := code_word (m := ⟨8, 2⟩) (meth := k8m2) (c := k8c2) (by decide +kernel) rfl rfl rfl (by decide +kernel)
set_option maxRecDepth 65536 in
theorem w_c8 : (Jvm.Cond.code ({ cls := "com/example/deioces/deioces/Message", name := "equals", desc := "(Ljava/lang/Object;)Z" } : Jvm.MethodName) prog_31_method_10_code (3 : Nat) (Option.some Jvm.ClassFile.FieldType.boolean)).before args0 about1 = true := code_word (m := ⟨2, 5⟩) (meth := k2m5) (c := k2c5) (by decide +kernel) rfl rfl rfl (by decide +kernel)
set_option maxRecDepth 65536 in
theorem w_c9 : (Jvm.Cond.code ({ cls := "com/example/deioces/deioces/Datagram", name := "sent", desc := "()J" } : Jvm.MethodName) prog_14_method_5_code (1 : Nat) (Option.some Jvm.ClassFile.FieldType.long)).before args0 about1 = true := code_word (m := ⟨8, 3⟩) (meth := k8m3) (c := k8c3) (by decide +kernel) rfl rfl rfl (by decide +kernel)
set_option maxRecDepth 65536 in
theorem w_c10 : (Jvm.Cond.code ({ cls := "com/example/deioces/deioces/Datagram", name := "echoes", desc := "()Z" } : Jvm.MethodName) prog_14_method_6_code (1 : Nat) (Option.some Jvm.ClassFile.FieldType.boolean)).before args0 about1 = true := code_word (m := ⟨8, 4⟩) (meth := k8m4) (c := k8c4) (by decide +kernel) rfl rfl rfl (by decide +kernel)
set_option maxRecDepth 65536 in
theorem w_c11 : (Jvm.Cond.code ({ cls := "com/example/deioces/deioces/Datagram", name := "echoed", desc := "()J" } : Jvm.MethodName) prog_14_method_7_code (1 : Nat) (Option.some Jvm.ClassFile.FieldType.long)).before args0 about1 = true := code_word (m := ⟨8, 5⟩) (meth := k8m5) (c := k8c5) (by decide +kernel) rfl rfl rfl (by decide +kernel)
set_option maxRecDepth 65536 in
theorem w_c12 : (Jvm.Cond.code ({ cls := "com/example/deioces/deioces/Datagram", name := "held", desc := "()J" } : Jvm.MethodName) prog_14_method_8_code (1 : Nat) (Option.some Jvm.ClassFile.FieldType.long)).before args0 about1 = true := code_word (m := ⟨8, 6⟩) (meth := k8m6) (c := k8c6) (by decide +kernel) rfl rfl rfl (by decide +kernel)
set_option maxRecDepth 65536 in
theorem w_c13 : (Jvm.Cond.code ({ cls := "com/example/deioces/deioces/Message", name := "release", desc := "(IJ)Lcom/example/deioces/deioces/Message;" } : Jvm.MethodName) prog_31_method_4_code (3 : Nat) (Option.some (Jvm.ClassFile.FieldType.object "com/example/deioces/deioces/Message"))).before args0 about1 = true := code_word (m := ⟨2, 3⟩) (meth := k2m3) (c := k2c3) (by decide +kernel) rfl rfl rfl (by decide +kernel)
set_option maxRecDepth 65536 in
theorem w_c14 : (Jvm.Cond.code ({ cls := "com/example/deioces/deioces/Message", name := "heartbeat", desc := "(I)Lcom/example/deioces/deioces/Message;" } : Jvm.MethodName) prog_31_method_5_code (1 : Nat) (Option.some (Jvm.ClassFile.FieldType.object "com/example/deioces/deioces/Message"))).before args0 about1 = true := code_word (m := ⟨2, 4⟩) (meth := k2m4) (c := k2c4) (by decide +kernel) rfl rfl rfl (by decide +kernel)
set_option maxRecDepth 65536 in
theorem w_c15 : (Jvm.Cond.code ({ cls := "com/example/deioces/deioces/Message", name := "reply", desc := "(IJZ)Lcom/example/deioces/deioces/Message;" } : Jvm.MethodName) prog_31_method_3_code (4 : Nat) (Option.some (Jvm.ClassFile.FieldType.object "com/example/deioces/deioces/Message"))).before args0 about1 = true := code_word (m := ⟨2, 2⟩) (meth := k2m2) (c := k2c2) (by decide +kernel) rfl rfl rfl (by decide +kernel)
def codes1 : List Jvm.Cond := [Jvm.Cond.code x code maxLocals ret, Jvm.Cond.code ({ cls := "com/example/deioces/deioces/DatagramEchoingPinLaw", name := "makeMessage", desc := "(IIJ)Lcom/example/deioces/deioces/Message;" } : Jvm.MethodName) method_2_code (5 : Nat) (Option.some (Jvm.ClassFile.FieldType.object "com/example/deioces/deioces/Message")), Jvm.Cond.code ({ cls := "com/example/deioces/deioces/Message", name := "election", desc := "(IJ)Lcom/example/deioces/deioces/Message;" } : Jvm.MethodName) prog_31_method_2_code (3 : Nat) (Option.some (Jvm.ClassFile.FieldType.object "com/example/deioces/deioces/Message")), Jvm.Cond.code ({ cls := "com/example/deioces/deioces/Message", name := "<init>", desc := "(Lcom/example/deioces/deioces/Message$Kind;IJZ)V" } : Jvm.MethodName) prog_31_method_1_code (6 : Nat) (Option.none : Option Jvm.ClassFile.FieldType), Jvm.Cond.code ({ cls := "java/lang/Object", name := "<init>", desc := "()V" } : Jvm.MethodName) object_method_1_code (1 : Nat) (Option.none : Option Jvm.ClassFile.FieldType), Jvm.Cond.code ({ cls := "com/example/deioces/deioces/Datagram", name := "echoing", desc := "(Lcom/example/deioces/deioces/Message;JJJ)Lcom/example/deioces/deioces/Datagram;" } : Jvm.MethodName) prog_14_method_3_code (7 : Nat) (Option.some (Jvm.ClassFile.FieldType.object "com/example/deioces/deioces/Datagram")), Jvm.Cond.code ({ cls := "com/example/deioces/deioces/Datagram", name := "<init>", desc := "(Lcom/example/deioces/deioces/Message;JZJJ)V" } : Jvm.MethodName) prog_14_method_1_code (9 : Nat) (Option.none : Option Jvm.ClassFile.FieldType), Jvm.Cond.code ({ cls := "com/example/deioces/deioces/Datagram", name := "message", desc := "()Lcom/example/deioces/deioces/Message;" } : Jvm.MethodName) prog_14_method_4_code (1 : Nat) (Option.some (Jvm.ClassFile.FieldType.object "com/example/deioces/deioces/Message")), Jvm.Cond.code ({ cls := "com/example/deioces/deioces/Message", name := "equals", desc := "(Ljava/lang/Object;)Z" } : Jvm.MethodName) prog_31_method_10_code (3 : Nat) (Option.some Jvm.ClassFile.FieldType.boolean), Jvm.Cond.code ({ cls := "com/example/deioces/deioces/Datagram", name := "sent", desc := "()J" } : Jvm.MethodName) prog_14_method_5_code (1 : Nat) (Option.some Jvm.ClassFile.FieldType.long), Jvm.Cond.code ({ cls := "com/example/deioces/deioces/Datagram", name := "echoes", desc := "()Z" } : Jvm.MethodName) prog_14_method_6_code (1 : Nat) (Option.some Jvm.ClassFile.FieldType.boolean), Jvm.Cond.code ({ cls := "com/example/deioces/deioces/Datagram", name := "echoed", desc := "()J" } : Jvm.MethodName) prog_14_method_7_code (1 : Nat) (Option.some Jvm.ClassFile.FieldType.long), Jvm.Cond.code ({ cls := "com/example/deioces/deioces/Datagram", name := "held", desc := "()J" } : Jvm.MethodName) prog_14_method_8_code (1 : Nat) (Option.some Jvm.ClassFile.FieldType.long), Jvm.Cond.code ({ cls := "com/example/deioces/deioces/Message", name := "release", desc := "(IJ)Lcom/example/deioces/deioces/Message;" } : Jvm.MethodName) prog_31_method_4_code (3 : Nat) (Option.some (Jvm.ClassFile.FieldType.object "com/example/deioces/deioces/Message")), Jvm.Cond.code ({ cls := "com/example/deioces/deioces/Message", name := "heartbeat", desc := "(I)Lcom/example/deioces/deioces/Message;" } : Jvm.MethodName) prog_31_method_5_code (1 : Nat) (Option.some (Jvm.ClassFile.FieldType.object "com/example/deioces/deioces/Message")), Jvm.Cond.code ({ cls := "com/example/deioces/deioces/Message", name := "reply", desc := "(IJZ)Lcom/example/deioces/deioces/Message;" } : Jvm.MethodName) prog_31_method_3_code (4 : Nat) (Option.some (Jvm.ClassFile.FieldType.object "com/example/deioces/deioces/Message"))]
set_option maxRecDepth 65536 in
theorem codes_eq : words1.filter isCode = codes1 := rfl
theorem w_codes : ∀ c ∈ words1.filter isCode, c.before args0 about1 = true := by
  rw [codes_eq]
  intro c hc
  simp only [codes1, List.mem_cons, List.not_mem_nil, or_false] at hc
  rcases hc with rfl | rfl | rfl | rfl | rfl | rfl | rfl | rfl | rfl | rfl | rfl | rfl | rfl | rfl | rfl | rfl
  · exact w_c0
  · exact w_c1
  · exact w_c2
  · exact w_c3
  · exact w_c4
  · exact w_c5
  · exact w_c6
  · exact w_c7
  · exact w_c8
  · exact w_c9
  · exact w_c10
  · exact w_c11
  · exact w_c12
  · exact w_c13
  · exact w_c14
  · exact w_c15
set_option maxRecDepth 65536 in
theorem w_t1 : (words1.take 24).all (fun c => isCode c || c.before args0 about1) = true := by decide +kernel
set_option maxRecDepth 65536 in
theorem w_t2 : ((words1.drop 24).take 24).all (fun c => isCode c || c.before args0 about1) = true := by decide +kernel
set_option maxRecDepth 65536 in
theorem w_t3 : (((words1.drop 24).drop 24).take 24).all (fun c => isCode c || c.before args0 about1) = true := by decide +kernel
set_option maxRecDepth 65536 in
theorem w_t4 : (((words1.drop 24).drop 24).drop 24).all (fun c => isCode c || c.before args0 about1) = true := by decide +kernel
theorem w_tables : (allAtoms (Jvm.Cond.code x code maxLocals ret :: tables_1)).before args0 about1 = true := by
  rw [allAtoms_all]
  show words1.all (fun c => c.before args0 about1) = true
  refine all_split ?_ w_codes
  rw [← List.take_append_drop 24 words1, List.all_append, w_t1, ← List.take_append_drop 24 (words1.drop 24), List.all_append, w_t2, ← List.take_append_drop 24 ((words1.drop 24).drop 24), List.all_append, w_t3, w_t4]
  rfl
set_option maxRecDepth 65536 in
theorem w_case : (Jvm.Cond.and given_1 narrow_1).before args0 about1 = true := by decide +kernel
theorem w_applies : (headSpec (Jvm.Cond.code x code maxLocals ret :: tables_1) room_1).applies x e0.platform about1 = true :=
  (Spec.applies_iff w_frames).mpr ⟨w_running, w_runnable, w_alone, w_named, w_hears, w_ripe, w_room, w_tables⟩
theorem atStart : AtStart classFile x code maxLocals ret World_1 tables_1 room_1 Calls_1 rest_1 Pre_1 launch0 p0 e0 about1 theMethod args0 below0 :=
  ⟨lists_1, trivial, launch0.admits_env _ _ _, launch0.least_env, fairChoices_fair.cas, fairChoices_fair.clock, w_frames, w_args, w_heap, w_applies, trivial, trivial, w_case⟩
end start1
theorem witness_1 : WitnessClaimed_1 := ⟨start1.p0, start1.e0, start1.about1, start1.theMethod, start1.args0, start1.below0, start1.atStart⟩
end Jvm.Pilot.@@N@@

import JvmDerived
import JvmDerived.Pilot.@@N@@Statement
import JvmDerived.Pilot.@@N@@Code
set_option linter.unusedVariables false
set_option linter.unusedSimpArgs false
namespace Jvm.Pilot.@@N@@
open Jvm Jvm.ClassFile Sem Op Lib Jvm.Free Jvm.Stand Jvm.LawKit Jvm.RoadKit Bundle Jvm.Pilot.@@N@@.Jvm.D
/-! the walk's steps, each as a rule on 'the run from here on ends well' -/
/-- the run from A on ends, and K holds of its end -/
def own_Fin (p : Program) (e : Env) (below : List Frame) (K : Outcome → State → Prop) (A : State) : Prop := ∃ t o, Steps p.tables e below A t ∧ t.status = .running ∧ Ended t below o ∧ K o t
/-- where the walk stands: nothing older than n0 written, the heap is h -/
def own_S (p : Program) (l : Launch) (e : Env) (R : Room) (s : State) (m : MethodId) (args : Array Value) (below : List Frame) (meth : Method) (c : Code) (n0 : Nat) (T : State) (h : Heap) (cl sl : Nat) : Prop :=
  ∃ locs, Stand p l e R s m args below meth c T locs cl sl ∧ Fr n0 locs ∧ T.heap = h ∧ n0 ≤ Array.size h
/-- of h the heap h' has changed the places in L alone -/
def own_Kp (h h' : Heap) (L : List (Addr × Nat)) : Prop := Array.size h ≤ Array.size h' ∧ ∀ (a : Addr) (c : Cell), h[a]? = some c → ∃ c' : Cell, h'[a]? = some c' ∧ c'.cls = c.cls ∧ c'.vm = c.vm ∧ c'.slots.size = c.slots.size ∧ (∀ i, (a, i) ∉ L → c'.slots[i]? = c.slots[i]?) ∧ ((∀ i, (a, i) ∉ L) → c' = c)
/-- what a body leaves: it wrote nothing older than n0, and P holds of what it returns and of the heap -/
def own_QQ (n0 : Nat) (P : Option Value → Heap → Prop) (v : Option Value) (h : Heap) (L : List Loc) : Prop := Fr n0 L ∧ P v h
/-- it returns r, and P holds of the heap -/
def own_R (r : Option Value) (P : Heap → Prop) (v : Option Value) (h : Heap) : Prop := v = r ∧ P h
theorem own_Kp.refl (h : Heap) (L : List (Addr × Nat)) : own_Kp h h L := ⟨Nat.le_refl _, fun a c q => ⟨c, q, rfl, rfl, rfl, fun _ _ => rfl, fun _ => rfl⟩⟩
theorem own_Kp.of_ext {h h' : Heap} (E : Ext h h') (L : List (Addr × Nat)) : own_Kp h h' L := ⟨E.1, fun a c q => ⟨c, E.2 a c q, rfl, rfl, rfl, fun _ _ => rfl, fun _ => rfl⟩⟩
theorem own_Kp.of_wr {h h' : Heap} {a : Addr} {sl : Nat} {v : Value} (W : Wr h h' a sl v) : own_Kp h h' [(a, sl)] := by
  refine ⟨Nat.le_of_eq W.size.symm, fun b c q => ?_⟩
  obtain ⟨c', e1, e2, e3, e4, e5, e6, -⟩ := wr_at W q
  refine ⟨c', e1, e2, e3, e4, fun i hi => ?_, fun hi => e5 fun e => hi sl (by rw [e]; exact List.mem_singleton.mpr rfl)⟩
  by_cases hb : b = a
  · exact e6 i fun e => hi (by rw [hb, e]; exact List.mem_singleton.mpr rfl)
  · rw [e5 hb]
theorem own_Kp.trans {h0 h h' : Heap} {L L' : List (Addr × Nat)} (K : own_Kp h0 h L) (K' : own_Kp h h' L') (q : ∀ x ∈ L', x ∈ L ∨ Array.size h0 ≤ x.1) : own_Kp h0 h' L := by
  refine ⟨Nat.le_trans K.1 K'.1, fun a c hc => ?_⟩
  obtain ⟨c1, a1, a2, a3, a4, a5, a6⟩ := K.2 a c hc
  obtain ⟨c2, b1, b2, b3, b4, b5, b6⟩ := K'.2 a c1 a1
  have ha : a < Array.size h0 := (Array.getElem?_eq_some_iff.mp hc).1
  have no : ∀ i, (a, i) ∉ L → (a, i) ∉ L' := fun i hi hj => (q (a, i) hj).elim hi fun z => absurd ha (Nat.not_lt.mpr z)
  exact ⟨c2, b1, b2.trans a2, b3.trans a3, b4.trans a4, fun i hi => (b5 i (no i hi)).trans (a5 i hi), fun hi => (b6 fun i => no i (hi i)).trans (a6 hi)⟩
theorem own_all0 {P : Addr × Nat → Prop} : ∀ x ∈ ([] : List (Addr × Nat)), P x := fun _ q => nomatch q
theorem own_allS {P : Addr × Nat → Prop} {y : Addr × Nat} {L : List (Addr × Nat)} (q : P y) (r : ∀ x ∈ L, P x) : ∀ x ∈ y :: L, P x := fun x z => (List.mem_cons.mp z).elim (fun u => u ▸ q) (r x)
theorem own_nin0 {x : Addr × Nat} : x ∉ ([] : List (Addr × Nat)) := fun q => nomatch q
theorem own_nin {a b : Addr} {i j : Nat} {L : List (Addr × Nat)} (q : a ≠ b ∨ i ≠ j) (r : (a, i) ∉ L) : (a, i) ∉ (b, j) :: L := fun z => (List.mem_cons.mp z).elim (fun e => q.elim (fun k => k (Prod.mk.inj e).1) (fun k => k (Prod.mk.inj e).2)) r
theorem own_nl {a b : Addr} {i j : Nat} {L : List (Addr × Nat)} (q : a ≠ b) (r : (a, i) ∉ L) : (a, i) ∉ (b, j) :: L := own_nin (Or.inl q) r
theorem own_nr {a b : Addr} {i j : Nat} {L : List (Addr × Nat)} (q : i ≠ j) (r : (a, i) ∉ L) : (a, i) ∉ (b, j) :: L := own_nin (Or.inr q) r
theorem own_out0 {a : Addr} : ∀ i, (a, i) ∉ ([] : List (Addr × Nat)) := fun _ q => nomatch q
theorem own_out {a b : Addr} {j : Nat} {L : List (Addr × Nat)} (q : a ≠ b) (r : ∀ i, (a, i) ∉ L) : ∀ i, (a, i) ∉ (b, j) :: L := fun i => own_nin (Or.inl q) (r i)
section Facts
variable {Z : State} {h h' : Heap} {a : Addr} {C n d : String} {v : Value} {L : List (Addr × Nat)}
theorem own_F (F : Fld Z h a C n d v) (K : own_Kp h h' L) (q : (a, Jvm.RoadKit.slotOf Z C n d) ∉ L) : Fld Z h' a C n d v := by
  obtain ⟨cell, cf, k, i, f, h1, h2, h3, h4, h5, h6, h7⟩ := F
  obtain ⟨c', e1, e2, e3, -, e5, -⟩ := K.2 a cell h1
  refine ⟨c', cf, k, i, f, e1, h2, h3, by rw [e3]; exact h4, by rw [e3]; exact h5, by rw [e2]; exact h6, ?_⟩
  have es : Jvm.RoadKit.slotOf Z C n d = f.slot := by simp [Jvm.RoadKit.slotOf, h2]
  rw [es] at q
  rw [e5 _ q]
  exact h7
theorem own_E (F : Exa Z h a C) (K : own_Kp h h' L) : Exa Z h' a C := by
  obtain ⟨cell, k, h1, h2, h3, h4, h5⟩ := F
  obtain ⟨c', e1, e2, e3, e4, -⟩ := K.2 a cell h1
  exact ⟨c', k, e1, by rw [e2]; exact h2, by rw [e2]; exact h3, by rw [e3]; exact h4, by rw [e4]; exact h5⟩
theorem own_St (F : Sta Z h C n d v) (K : own_Kp h h' L) (q : ∀ x ∈ L, ∀ c : Cell, h[x.1]? = some c → c.vm.isStatics = false) : Sta Z h' C n d v := by
  obtain ⟨cf, i, k, f, st, cell, h1, h2, h3, h4, h5, h6, h7⟩ := F
  obtain ⟨c', e1, -, -, -, -, e6⟩ := K.2 st cell h5
  have hq : ∀ i, (st, i) ∉ L := fun i z => by
    rw [q _ z cell h5] at h6
    cases h6
  rw [e6 hq] at e1
  exact ⟨cf, i, k, f, st, cell, h1, h2, h3, h4, e1, h6, h7⟩
theorem own_A {k : ClassId} {ty : FieldType} {z : Int32} {vs : List Value} {dv : Value} (F : Arv Z h a k ty z vs dv) (K : own_Kp h h' L) (q : ∀ i, (a, i) ∉ L) : Arv Z h' a k ty z vs dv := by
  obtain ⟨c, A, r⟩ := F
  obtain ⟨c', e1, -, -, -, -, e6⟩ := K.2 a c A.1
  rw [e6 q] at e1
  exact ⟨c, ⟨e1, A.2⟩, r⟩
theorem own_plain (E : Exa Z h a C) : ∀ c : Cell, h[a]? = some c → c.vm.isStatics = false := fun c hc => by
  obtain ⟨c', k, h1, -, -, h4, -⟩ := E
  cases h1.symm.trans hc
  exact h4
theorem own_plainA {k : ClassId} {ty : FieldType} {z : Int32} {vs : List Value} {dv : Value} (F : Arv Z h a k ty z vs dv) : ∀ c : Cell, h[a]? = some c → c.vm.isStatics = false := fun c hc => by
  obtain ⟨c', A, -⟩ := F
  cases A.1.symm.trans hc
  exact A.plain
end Facts
theorem own_narZ {x : Int32} (h : x = 0 ∨ x = 1) : narrow .boolean (.int x) = .int x := by rcases h with rfl | rfl <;> rfl
theorem own_fitZ {x : Int32} (h : x = 0 ∨ x = 1) : fits .boolean (.int x) = true := by rcases h with rfl | rfl <;> rfl
theorem own_narR {t : FieldType} {v : Value} (ht : t.isReference = true) (h : v.isRef = true) : narrow t v = v := by
  cases t <;> first | (cases ht; done) | (rcases ref_cases h with rfl | ⟨a, rfl⟩ <;> rfl)
theorem own_fitR {t : FieldType} {v : Value} (ht : t.isReference = true) (h : v.isRef = true) : fits t v = true := by
  cases t <;> first | (cases ht; done) | (rcases ref_cases h with rfl | ⟨a, rfl⟩ <;> rfl)
theorem own_catR {v : Value} (h : v.isRef = true) : v.category = 1 := by rcases ref_cases h with rfl | ⟨a, rfl⟩ <;> rfl
theorem own_stV {l l' : Array Slot} {i : Nat} {v : Value} {o : Slot} (hv : v.isRef = true) (hold : l[i]? = some o) (ho : o = .unset ∨ ∃ w, o = .val w ∧ w.category = 1) (q : l.setIfInBounds i (.val v) = l') : storeLocals l i v = some l' := by rw [XS.store1 hold ho (own_catR hv), q]
section Walk
variable {p : Program} {l : Launch} {e : Env} {R : Room} {s : State} {m : MethodId} {args : Array Value} {below : List Frame} {meth : Method} {c : Code} {n0 : Nat} {T : State} {h : Heap} {cl sl : Nat} {K : Outcome → State → Prop} {Z : State} {a0 : Array Value}
  {pc pc' : Nat} {Ls Ls' : Array Slot} {S : List Value} {v u : Value} {x y : Int32} {j i : Int64}
theorem own_st {A B : State} (st : ∀ t, Steps p.tables e below B t → Steps p.tables e below A t) (h : own_Fin p e below K B) : own_Fin p e below K A := by
  obtain ⟨t, o, h1, h2⟩ := h
  exact ⟨t, o, st t h1, h2⟩
theorem own_tr {A B : State} (st : Steps p.tables e below A B) (h : own_Fin p e below K B) : own_Fin p e below K A := by
  obtain ⟨t, o, h1, h2⟩ := h
  exact ⟨t, o, st.trans h1, h2⟩
theorem own_sz (Y : own_S p l e R s m args below meth c n0 T h cl sl) : n0 ≤ Array.size h := by
  obtain ⟨_, _, _, _, q⟩ := Y
  exact q
theorem own_iloadN (Y : own_S p l e R s m args below meth c n0 T h cl sl) (hx : p.tables.exec = Jvm.exec) {q : Fin 4} (hd : decode c.code pc = .ok (.iload_n q, 1)) (hpc : pc + 1 = pc') (hl : Ls[q.val]? = some (.val (.int x))) (k : own_Fin p e below K (T.setTop (mkF m pc' Ls (.int x :: S)))) : own_Fin p e below K (T.setTop (mkF m pc Ls S)) := by
  obtain ⟨locs, X, -⟩ := Y
  subst hpc
  exact own_st (fun t k => XS.iloadN X.here hx rfl hd hl k) k
theorem own_iload (Y : own_S p l e R s m args below meth c n0 T h cl sl) (hx : p.tables.exec = Jvm.exec) {q : Nat} (hd : decode c.code pc = .ok (.iload q, 2)) (hpc : pc + 2 = pc') (hl : Ls[q]? = some (.val (.int x))) (k : own_Fin p e below K (T.setTop (mkF m pc' Ls (.int x :: S)))) : own_Fin p e below K (T.setTop (mkF m pc Ls S)) := by
  obtain ⟨locs, X, -⟩ := Y
  subst hpc
  exact own_st (fun t k => XS.iload X.here hx rfl hd hl k) k
theorem own_lloadN (Y : own_S p l e R s m args below meth c n0 T h cl sl) (hx : p.tables.exec = Jvm.exec) {q : Fin 4} (hd : decode c.code pc = .ok (.lload_n q, 1)) (hpc : pc + 1 = pc') (hl : Ls[q.val]? = some (.val (.long j))) (k : own_Fin p e below K (T.setTop (mkF m pc' Ls (.long j :: S)))) : own_Fin p e below K (T.setTop (mkF m pc Ls S)) := by
  obtain ⟨locs, X, -⟩ := Y
  subst hpc
  exact own_st (fun t k => XS.lloadN X.here hx rfl hd hl k) k
theorem own_lload (Y : own_S p l e R s m args below meth c n0 T h cl sl) (hx : p.tables.exec = Jvm.exec) {q : Nat} (hd : decode c.code pc = .ok (.lload q, 2)) (hpc : pc + 2 = pc') (hl : Ls[q]? = some (.val (.long j))) (k : own_Fin p e below K (T.setTop (mkF m pc' Ls (.long j :: S)))) : own_Fin p e below K (T.setTop (mkF m pc Ls S)) := by
  obtain ⟨locs, X, -⟩ := Y
  subst hpc
  exact own_st (fun t k => XS.lload X.here hx rfl hd hl k) k
theorem own_aloadN (Y : own_S p l e R s m args below meth c n0 T h cl sl) (hx : p.tables.exec = Jvm.exec) {q : Fin 4} (hd : decode c.code pc = .ok (.aload_n q, 1)) (hpc : pc + 1 = pc') (hl : Ls[q.val]? = some (.val v)) (hv : v.isRef = true) (k : own_Fin p e below K (T.setTop (mkF m pc' Ls (v :: S)))) : own_Fin p e below K (T.setTop (mkF m pc Ls S)) := by
  obtain ⟨locs, X, -⟩ := Y
  subst hpc
  exact own_st (fun t k => XS.aloadN X.here hx rfl hd hl hv k) k
theorem own_aload (Y : own_S p l e R s m args below meth c n0 T h cl sl) (hx : p.tables.exec = Jvm.exec) {q : Nat} (hd : decode c.code pc = .ok (.aload q, 2)) (hpc : pc + 2 = pc') (hl : Ls[q]? = some (.val v)) (hv : v.isRef = true) (k : own_Fin p e below K (T.setTop (mkF m pc' Ls (v :: S)))) : own_Fin p e below K (T.setTop (mkF m pc Ls S)) := by
  obtain ⟨locs, X, -⟩ := Y
  subst hpc
  exact own_st (fun t k => XS.aload X.here hx rfl hd hl hv k) k
theorem own_istoreN (Y : own_S p l e R s m args below meth c n0 T h cl sl) (hx : p.tables.exec = Jvm.exec) {q : Fin 4} (hd : decode c.code pc = .ok (.istore_n q, 1)) (hpc : pc + 1 = pc') (hl : storeLocals Ls q.val (.int x) = some Ls') (k : own_Fin p e below K (T.setTop (mkF m pc' Ls' S))) : own_Fin p e below K (T.setTop (mkF m pc Ls ((.int x) :: S))) := by
  obtain ⟨locs, X, -⟩ := Y
  subst hpc
  exact own_st (fun t k => XS.istoreN X.here hx rfl hd rfl hl k) k
theorem own_istore (Y : own_S p l e R s m args below meth c n0 T h cl sl) (hx : p.tables.exec = Jvm.exec) {q : Nat} (hd : decode c.code pc = .ok (.istore q, 2)) (hpc : pc + 2 = pc') (hl : storeLocals Ls q (.int x) = some Ls') (k : own_Fin p e below K (T.setTop (mkF m pc' Ls' S))) : own_Fin p e below K (T.setTop (mkF m pc Ls ((.int x) :: S))) := by
  obtain ⟨locs, X, -⟩ := Y
  subst hpc
  exact own_st (fun t k => XS.istore X.here hx rfl hd rfl hl k) k
theorem own_lstoreN (Y : own_S p l e R s m args below meth c n0 T h cl sl) (hx : p.tables.exec = Jvm.exec) {q : Fin 4} (hd : decode c.code pc = .ok (.lstore_n q, 1)) (hpc : pc + 1 = pc') (hl : storeLocals Ls q.val (.long j) = some Ls') (k : own_Fin p e below K (T.setTop (mkF m pc' Ls' S))) : own_Fin p e below K (T.setTop (mkF m pc Ls ((.long j) :: S))) := by
  obtain ⟨locs, X, -⟩ := Y
  subst hpc
  exact own_st (fun t k => XS.lstoreN X.here hx rfl hd rfl hl k) k
theorem own_lstore (Y : own_S p l e R s m args below meth c n0 T h cl sl) (hx : p.tables.exec = Jvm.exec) {q : Nat} (hd : decode c.code pc = .ok (.lstore q, 2)) (hpc : pc + 2 = pc') (hl : storeLocals Ls q (.long j) = some Ls') (k : own_Fin p e below K (T.setTop (mkF m pc' Ls' S))) : own_Fin p e below K (T.setTop (mkF m pc Ls ((.long j) :: S))) := by
  obtain ⟨locs, X, -⟩ := Y
  subst hpc
  exact own_st (fun t k => XS.lstore X.here hx rfl hd rfl hl k) k
theorem own_astoreN (Y : own_S p l e R s m args below meth c n0 T h cl sl) (hx : p.tables.exec = Jvm.exec) {q : Fin 4} (hd : decode c.code pc = .ok (.astore_n q, 1)) (hpc : pc + 1 = pc') (hv : v.isRef = true) (hl : storeLocals Ls q.val v = some Ls') (k : own_Fin p e below K (T.setTop (mkF m pc' Ls' S))) : own_Fin p e below K (T.setTop (mkF m pc Ls (v :: S))) := by
  obtain ⟨locs, X, -⟩ := Y
  subst hpc
  exact own_st (fun t k => XS.astoreN X.here hx rfl hd rfl hv hl k) k
theorem own_astore (Y : own_S p l e R s m args below meth c n0 T h cl sl) (hx : p.tables.exec = Jvm.exec) {q : Nat} (hd : decode c.code pc = .ok (.astore q, 2)) (hpc : pc + 2 = pc') (hv : v.isRef = true) (hl : storeLocals Ls q v = some Ls') (k : own_Fin p e below K (T.setTop (mkF m pc' Ls' S))) : own_Fin p e below K (T.setTop (mkF m pc Ls (v :: S))) := by
  obtain ⟨locs, X, -⟩ := Y
  subst hpc
  exact own_st (fun t k => XS.astore X.here hx rfl hd rfl hv hl k) k
theorem own_iconst (Y : own_S p l e R s m args below meth c n0 T h cl sl) (hx : p.tables.exec = Jvm.exec) {q : Int} (hd : decode c.code pc = .ok (.iconst q, 1)) (hpc : pc + 1 = pc') (hv : Int32.ofInt q = x) (k : own_Fin p e below K (T.setTop (mkF m pc' Ls (.int x :: S)))) : own_Fin p e below K (T.setTop (mkF m pc Ls S)) := by
  obtain ⟨locs, X, -⟩ := Y
  subst hpc hv
  exact own_st (fun t k => XS.iconst X.here hx rfl hd k) k
theorem own_bipush (Y : own_S p l e R s m args below meth c n0 T h cl sl) (hx : p.tables.exec = Jvm.exec) {q : Int} (hd : decode c.code pc = .ok (.bipush q, 2)) (hpc : pc + 2 = pc') (hv : (Int8.ofInt q).toInt32 = x) (k : own_Fin p e below K (T.setTop (mkF m pc' Ls (.int x :: S)))) : own_Fin p e below K (T.setTop (mkF m pc Ls S)) := by
  obtain ⟨locs, X, -⟩ := Y
  subst hpc hv
  exact own_st (fun t k => XS.bipush X.here hx rfl hd k) k
theorem own_sipush (Y : own_S p l e R s m args below meth c n0 T h cl sl) (hx : p.tables.exec = Jvm.exec) {q : Int} (hd : decode c.code pc = .ok (.sipush q, 3)) (hpc : pc + 3 = pc') (hv : (Int16.ofInt q).toInt32 = x) (k : own_Fin p e below K (T.setTop (mkF m pc' Ls (.int x :: S)))) : own_Fin p e below K (T.setTop (mkF m pc Ls S)) := by
  obtain ⟨locs, X, -⟩ := Y
  subst hpc hv
  exact own_st (fun t k => XS.sipush X.here hx rfl hd k) k
theorem own_aconstNull (Y : own_S p l e R s m args below meth c n0 T h cl sl) (hx : p.tables.exec = Jvm.exec) (hd : decode c.code pc = .ok (.aconst_null, 1)) (hpc : pc + 1 = pc') (k : own_Fin p e below K (T.setTop (mkF m pc' Ls (.null :: S)))) : own_Fin p e below K (T.setTop (mkF m pc Ls S)) := by
  obtain ⟨locs, X, -⟩ := Y
  subst hpc
  exact own_st (fun t k => XS.aconstNull X.here hx rfl hd k) k
theorem own_iadd (Y : own_S p l e R s m args below meth c n0 T h cl sl) (hx : p.tables.exec = Jvm.exec) {z : Int32} (hd : decode c.code pc = .ok (.iadd, 1)) (hpc : pc + 1 = pc') (hv : x + y = z) (k : own_Fin p e below K (T.setTop (mkF m pc' Ls (.int z :: S)))) : own_Fin p e below K (T.setTop (mkF m pc Ls (.int y :: .int x :: S))) := by
  obtain ⟨locs, X, -⟩ := Y
  subst hpc hv
  exact own_st (fun t k => XS.iadd X.here hx rfl hd rfl k) k
theorem own_isub (Y : own_S p l e R s m args below meth c n0 T h cl sl) (hx : p.tables.exec = Jvm.exec) {z : Int32} (hd : decode c.code pc = .ok (.isub, 1)) (hpc : pc + 1 = pc') (hv : x - y = z) (k : own_Fin p e below K (T.setTop (mkF m pc' Ls (.int z :: S)))) : own_Fin p e below K (T.setTop (mkF m pc Ls (.int y :: .int x :: S))) := by
  obtain ⟨locs, X, -⟩ := Y
  subst hpc hv
  exact own_st (fun t k => XS.isub X.here hx rfl hd rfl k) k
theorem own_imul (Y : own_S p l e R s m args below meth c n0 T h cl sl) (hx : p.tables.exec = Jvm.exec) {z : Int32} (hd : decode c.code pc = .ok (.imul, 1)) (hpc : pc + 1 = pc') (hv : x * y = z) (k : own_Fin p e below K (T.setTop (mkF m pc' Ls (.int z :: S)))) : own_Fin p e below K (T.setTop (mkF m pc Ls (.int y :: .int x :: S))) := by
  obtain ⟨locs, X, -⟩ := Y
  subst hpc hv
  exact own_st (fun t k => XS.imul X.here hx rfl hd rfl k) k
theorem own_iand (Y : own_S p l e R s m args below meth c n0 T h cl sl) (hx : p.tables.exec = Jvm.exec) {z : Int32} (hd : decode c.code pc = .ok (.iand, 1)) (hpc : pc + 1 = pc') (hv : x &&& y = z) (k : own_Fin p e below K (T.setTop (mkF m pc' Ls (.int z :: S)))) : own_Fin p e below K (T.setTop (mkF m pc Ls (.int y :: .int x :: S))) := by
  obtain ⟨locs, X, -⟩ := Y
  subst hpc hv
  exact own_st (fun t k => XS.iand X.here hx rfl hd rfl k) k
theorem own_ior (Y : own_S p l e R s m args below meth c n0 T h cl sl) (hx : p.tables.exec = Jvm.exec) {z : Int32} (hd : decode c.code pc = .ok (.ior, 1)) (hpc : pc + 1 = pc') (hv : x ||| y = z) (k : own_Fin p e below K (T.setTop (mkF m pc' Ls (.int z :: S)))) : own_Fin p e below K (T.setTop (mkF m pc Ls (.int y :: .int x :: S))) := by
  obtain ⟨locs, X, -⟩ := Y
  subst hpc hv
  exact own_st (fun t k => XS.ior X.here hx rfl hd rfl k) k
theorem own_ixor (Y : own_S p l e R s m args below meth c n0 T h cl sl) (hx : p.tables.exec = Jvm.exec) {z : Int32} (hd : decode c.code pc = .ok (.ixor, 1)) (hpc : pc + 1 = pc') (hv : x ^^^ y = z) (k : own_Fin p e below K (T.setTop (mkF m pc' Ls (.int z :: S)))) : own_Fin p e below K (T.setTop (mkF m pc Ls (.int y :: .int x :: S))) := by
  obtain ⟨locs, X, -⟩ := Y
  subst hpc hv
  exact own_st (fun t k => XS.ixor X.here hx rfl hd rfl k) k
theorem own_ishl (Y : own_S p l e R s m args below meth c n0 T h cl sl) (hx : p.tables.exec = Jvm.exec) {z : Int32} (hd : decode c.code pc = .ok (.ishl, 1)) (hpc : pc + 1 = pc') (hv : (x <<< (y &&& 31)) = z) (k : own_Fin p e below K (T.setTop (mkF m pc' Ls (.int z :: S)))) : own_Fin p e below K (T.setTop (mkF m pc Ls (.int y :: .int x :: S))) := by
  obtain ⟨locs, X, -⟩ := Y
  subst hpc hv
  exact own_st (fun t k => XS.ishl X.here hx rfl hd rfl k) k
theorem own_ishr (Y : own_S p l e R s m args below meth c n0 T h cl sl) (hx : p.tables.exec = Jvm.exec) {z : Int32} (hd : decode c.code pc = .ok (.ishr, 1)) (hpc : pc + 1 = pc') (hv : (x >>> (y &&& 31)) = z) (k : own_Fin p e below K (T.setTop (mkF m pc' Ls (.int z :: S)))) : own_Fin p e below K (T.setTop (mkF m pc Ls (.int y :: .int x :: S))) := by
  obtain ⟨locs, X, -⟩ := Y
  subst hpc hv
  exact own_st (fun t k => XS.ishr X.here hx rfl hd rfl k) k
theorem own_iushr (Y : own_S p l e R s m args below meth c n0 T h cl sl) (hx : p.tables.exec = Jvm.exec) {z : Int32} (hd : decode c.code pc = .ok (.iushr, 1)) (hpc : pc + 1 = pc') (hv : ((x.toUInt32 >>> (y &&& 31).toUInt32).toInt32) = z) (k : own_Fin p e below K (T.setTop (mkF m pc' Ls (.int z :: S)))) : own_Fin p e below K (T.setTop (mkF m pc Ls (.int y :: .int x :: S))) := by
  obtain ⟨locs, X, -⟩ := Y
  subst hpc hv
  exact own_st (fun t k => XS.iushr X.here hx rfl hd rfl k) k
theorem own_irem (Y : own_S p l e R s m args below meth c n0 T h cl sl) (hx : p.tables.exec = Jvm.exec) {z : Int32} (hd : decode c.code pc = .ok (.irem, 1)) (hpc : pc + 1 = pc') (hy : y ≠ 0) (hv : x % y = z) (k : own_Fin p e below K (T.setTop (mkF m pc' Ls (.int z :: S)))) : own_Fin p e below K (T.setTop (mkF m pc Ls (.int y :: .int x :: S))) := by
  obtain ⟨locs, X, -⟩ := Y
  subst hpc hv
  exact own_st (fun t k => iremM X hx rfl hd rfl hy k) k
theorem own_i2c (Y : own_S p l e R s m args below meth c n0 T h cl sl) (hx : p.tables.exec = Jvm.exec) {z : Int32} (hd : decode c.code pc = .ok (.i2c, 1)) (hpc : pc + 1 = pc') (hv : x.toUInt32.toUInt16.toUInt32.toInt32 = z) (k : own_Fin p e below K (T.setTop (mkF m pc' Ls (.int z :: S)))) : own_Fin p e below K (T.setTop (mkF m pc Ls (.int x :: S))) := by
  obtain ⟨locs, X, -⟩ := Y
  subst hpc hv
  exact own_st (fun t k => XS.i2c X.here hx rfl hd rfl k) k
theorem own_i2b (Y : own_S p l e R s m args below meth c n0 T h cl sl) (hx : p.tables.exec = Jvm.exec) {z : Int32} (hd : decode c.code pc = .ok (.i2b, 1)) (hpc : pc + 1 = pc') (hv : x.toInt8.toInt32 = z) (k : own_Fin p e below K (T.setTop (mkF m pc' Ls (.int z :: S)))) : own_Fin p e below K (T.setTop (mkF m pc Ls (.int x :: S))) := by
  obtain ⟨locs, X, -⟩ := Y
  subst hpc hv
  exact own_st (fun t k => XS.i2b X.here hx rfl hd rfl k) k
theorem own_pop (Y : own_S p l e R s m args below meth c n0 T h cl sl) (hx : p.tables.exec = Jvm.exec) (hd : decode c.code pc = .ok (.pop, 1)) (hpc : pc + 1 = pc') (hc : v.category = 1) (k : own_Fin p e below K (T.setTop (mkF m pc' Ls S))) : own_Fin p e below K (T.setTop (mkF m pc Ls (v :: S))) := by
  obtain ⟨locs, X, -⟩ := Y
  subst hpc
  exact own_st (fun t k => XS.pop X.here hx rfl hd rfl hc k) k
theorem own_dup (Y : own_S p l e R s m args below meth c n0 T h cl sl) (hx : p.tables.exec = Jvm.exec) (hd : decode c.code pc = .ok (.dup, 1)) (hpc : pc + 1 = pc') (hc : v.category = 1) (k : own_Fin p e below K (T.setTop (mkF m pc' Ls (v :: v :: S)))) : own_Fin p e below K (T.setTop (mkF m pc Ls (v :: S))) := by
  obtain ⟨locs, X, -⟩ := Y
  subst hpc
  exact own_st (fun t k => XS.dup X.here hx rfl hd rfl hc k) k
theorem own_dupX1 (Y : own_S p l e R s m args below meth c n0 T h cl sl) (hx : p.tables.exec = Jvm.exec) (hd : decode c.code pc = .ok (.dup_x1, 1)) (hpc : pc + 1 = pc') (hc : v.category = 1) (hu : u.category = 1) (k : own_Fin p e below K (T.setTop (mkF m pc' Ls (v :: u :: v :: S)))) : own_Fin p e below K (T.setTop (mkF m pc Ls (v :: u :: S))) := by
  obtain ⟨locs, X, -⟩ := Y
  subst hpc
  exact own_st (fun t k => XS.dupX1 X.here hx rfl hd rfl hc hu k) k
theorem own_goto (Y : own_S p l e R s m args below meth c n0 T h cl sl) (hx : p.tables.exec = Jvm.exec) {o : Int} (hd : decode c.code pc = .ok (.goto o, 3)) (ho : 0 ≤ (pc : Int) + o) (hp : ((pc : Int) + o).toNat = pc') (k : own_Fin p e below K (T.setTop (mkF m pc' Ls S))) : own_Fin p e below K (T.setTop (mkF m pc Ls S)) := by
  obtain ⟨locs, X, -⟩ := Y
  exact own_st (fun t k => XS.goto X.here hx rfl rfl hd ho hp k) k
theorem own_ifYes (Y : own_S p l e R s m args below meth c n0 T h cl sl) (hx : p.tables.exec = Jvm.exec) {cd : ClassFile.Cond} {o : Int} (hd : decode c.code pc = .ok (.ifCond cd o, 3)) (hc : ifCond.holds cd x = true) (ho : 0 ≤ (pc : Int) + o) (hp : ((pc : Int) + o).toNat = pc') (k : own_Fin p e below K (T.setTop (mkF m pc' Ls S))) : own_Fin p e below K (T.setTop (mkF m pc Ls (.int x :: S))) := by
  obtain ⟨locs, X, -⟩ := Y
  exact own_st (fun t k => XS.ifYes X.here hx rfl rfl hd rfl hc ho hp k) k
theorem own_icmpYes (Y : own_S p l e R s m args below meth c n0 T h cl sl) (hx : p.tables.exec = Jvm.exec) {cd : ClassFile.Cond} {o : Int} (hd : decode c.code pc = .ok (.if_icmp cd o, 3)) (hc : if_icmp.holds cd x y = true) (ho : 0 ≤ (pc : Int) + o) (hp : ((pc : Int) + o).toNat = pc') (k : own_Fin p e below K (T.setTop (mkF m pc' Ls S))) : own_Fin p e below K (T.setTop (mkF m pc Ls (.int y :: .int x :: S))) := by
  obtain ⟨locs, X, -⟩ := Y
  exact own_st (fun t k => XS.icmpYes X.here hx rfl rfl hd rfl hc ho hp k) k
theorem own_ifNo (Y : own_S p l e R s m args below meth c n0 T h cl sl) (hx : p.tables.exec = Jvm.exec) {cd : ClassFile.Cond} {o : Int} (hd : decode c.code pc = .ok (.ifCond cd o, 3)) (hpc : pc + 3 = pc') (hc : ifCond.holds cd x = false) (k : own_Fin p e below K (T.setTop (mkF m pc' Ls S))) : own_Fin p e below K (T.setTop (mkF m pc Ls (.int x :: S))) := by
  obtain ⟨locs, X, -⟩ := Y
  subst hpc
  exact own_st (fun t k => XS.ifNo X.here hx rfl hd rfl hc k) k
theorem own_icmpNo (Y : own_S p l e R s m args below meth c n0 T h cl sl) (hx : p.tables.exec = Jvm.exec) {cd : ClassFile.Cond} {o : Int} (hd : decode c.code pc = .ok (.if_icmp cd o, 3)) (hpc : pc + 3 = pc') (hc : if_icmp.holds cd x y = false) (k : own_Fin p e below K (T.setTop (mkF m pc' Ls S))) : own_Fin p e below K (T.setTop (mkF m pc Ls (.int y :: .int x :: S))) := by
  obtain ⟨locs, X, -⟩ := Y
  subst hpc
  exact own_st (fun t k => XS.icmpNo X.here hx rfl hd rfl hc k) k
theorem own_acmp (Y : own_S p l e R s m args below meth c n0 T h cl sl) (hx : p.tables.exec = Jvm.exec) {cd : ACond} {o : Int} {same : Bool} (hd : decode c.code pc = .ok (.if_acmp cd o, 3)) (h1 : u.isRef = true) (h2 : v.isRef = true) (hq : decide (u = v) = same) (ho : 0 ≤ (pc : Int) + o) (hp : pc' = if acV cd same = true then ((pc : Int) + o).toNat else pc + 3) (k : own_Fin p e below K (T.setTop (mkF m pc' Ls S))) : own_Fin p e below K (T.setTop (mkF m pc Ls (v :: u :: S))) := by
  obtain ⟨locs, X, -⟩ := Y
  exact own_st (fun t k => Jvm.RoadKit.acmp X hx rfl h1 h2 rfl hd rfl hq ho hp k) k
theorem own_ifnullYes (Y : own_S p l e R s m args below meth c n0 T h cl sl) (hx : p.tables.exec = Jvm.exec) {o : Int} (hd : decode c.code pc = .ok (.ifnull o, 3)) (ho : 0 ≤ (pc : Int) + o) (hp : ((pc : Int) + o).toNat = pc') (k : own_Fin p e below K (T.setTop (mkF m pc' Ls S))) : own_Fin p e below K (T.setTop (mkF m pc Ls (.null :: S))) := by
  obtain ⟨locs, X, -⟩ := Y
  exact own_st (fun t k => XS.ifnullYes X.here hx rfl rfl hd rfl ho hp k) k
theorem own_ifnullNo (Y : own_S p l e R s m args below meth c n0 T h cl sl) (hx : p.tables.exec = Jvm.exec) {o : Int} {b : Addr} (hd : decode c.code pc = .ok (.ifnull o, 3)) (hpc : pc + 3 = pc') (k : own_Fin p e below K (T.setTop (mkF m pc' Ls S))) : own_Fin p e below K (T.setTop (mkF m pc Ls (.ref b :: S))) := by
  obtain ⟨locs, X, -⟩ := Y
  subst hpc
  exact own_st (fun t k => XS.ifnullNo X.here hx rfl hd rfl k) k
theorem own_ifnonnullYes (Y : own_S p l e R s m args below meth c n0 T h cl sl) (hx : p.tables.exec = Jvm.exec) {o : Int} {b : Addr} (hd : decode c.code pc = .ok (.ifnonnull o, 3)) (ho : 0 ≤ (pc : Int) + o) (hp : ((pc : Int) + o).toNat = pc') (k : own_Fin p e below K (T.setTop (mkF m pc' Ls S))) : own_Fin p e below K (T.setTop (mkF m pc Ls (.ref b :: S))) := by
  obtain ⟨locs, X, -⟩ := Y
  exact own_st (fun t k => XS.ifnonnullYes X.here hx rfl rfl hd rfl ho hp k) k
theorem own_ifnonnullNo (Y : own_S p l e R s m args below meth c n0 T h cl sl) (hx : p.tables.exec = Jvm.exec) {o : Int} (hd : decode c.code pc = .ok (.ifnonnull o, 3)) (hpc : pc + 3 = pc') (k : own_Fin p e below K (T.setTop (mkF m pc' Ls S))) : own_Fin p e below K (T.setTop (mkF m pc Ls (.null :: S))) := by
  obtain ⟨locs, X, -⟩ := Y
  subst hpc
  exact own_st (fun t k => XS.ifnonnullNo X.here hx rfl hd rfl k) k
theorem own_tswIn (Y : own_S p l e R s m args below meth c n0 T h cl sl) (hx : p.tables.exec = Jvm.exec) {dflt low high : Int} {offs : Array Int} {len : Nat} {o : Int} (hd : decode c.code pc = .ok (.tableswitch dflt low high offs, len)) (hin : ¬ (x.toInt < low ∨ x.toInt > high)) (hoff : offs[(x.toInt - low).toNat]? = some o) (ho : 0 ≤ (pc : Int) + o) (hp : ((pc : Int) + o).toNat = pc') (k : own_Fin p e below K (T.setTop (mkF m pc' Ls S))) : own_Fin p e below K (T.setTop (mkF m pc Ls (.int x :: S))) := by
  obtain ⟨locs, X, -⟩ := Y
  exact own_st (fun t k => XS.tswIn X.here hx rfl rfl hd rfl hin hoff ho hp k) k
theorem own_tswOut (Y : own_S p l e R s m args below meth c n0 T h cl sl) (hx : p.tables.exec = Jvm.exec) {dflt low high : Int} {offs : Array Int} {len : Nat} (hd : decode c.code pc = .ok (.tableswitch dflt low high offs, len)) (hout : x.toInt < low ∨ x.toInt > high) (ho : 0 ≤ (pc : Int) + dflt) (hp : ((pc : Int) + dflt).toNat = pc') (k : own_Fin p e below K (T.setTop (mkF m pc' Ls S))) : own_Fin p e below K (T.setTop (mkF m pc Ls (.int x :: S))) := by
  obtain ⟨locs, X, -⟩ := Y
  exact own_st (fun t k => XS.tswOut X.here hx rfl rfl hd rfl hout ho hp k) k
theorem own_ldcI (Y : own_S p l e R s m args below meth c n0 T h cl sl) (hx : p.tables.exec = Jvm.exec) {own : String} {index : Nat} (hZ : Z.Warmed39 s.vm) (hown : s.vm.findClass own = some m.cls) (w : (Jvm.Cond.constant own index x).before a0 Z = true) (hd : decode c.code pc = .ok (.ldc index, 2)) (hpc : pc + 2 = pc') (k : own_Fin p e below K (T.setTop (mkF m pc' Ls (.int x :: S)))) : own_Fin p e below K (T.setTop (mkF m pc Ls S)) := by
  obtain ⟨locs, X, -⟩ := Y
  subst hpc
  exact own_st (fun t k => X.ldcI hx hown (mvT hZ w) rfl hd k) k
theorem own_getS (Y : own_S p l e R s m args below meth c n0 T h cl sl) (hx : p.tables.exec = Jvm.exec) {own R0 O n d host : String} {index : Nat} (hZ : Z.Warmed39 s.vm) (hown : s.vm.findClass own = some m.cls) (w : (Jvm.Cond.fieldLink own index R0 n d).before a0 Z = true ∨ (Jvm.Cond.fieldLinkNest own index R0 n d host).before a0 Z = true) (via : Via Z R0 O n d) (F : Sta Z h O n d v)
    (hd : decode c.code pc = .ok (.getstatic index, 3)) (hpc : pc + 3 = pc') (k : ∀ T', own_S p l e R s m args below meth c n0 T' h cl sl → own_Fin p e below K (T'.setTop (mkF m pc' Ls (v :: S)))) : own_Fin p e below K (T.setTop (mkF m pc Ls S)) := by
  obtain ⟨locs, X, N, e0, hn0⟩ := Y
  obtain ⟨T', X', e', st⟩ := getS2 X hx hZ hown w via e0 F (g := mkF m pc Ls S) rfl hd
  subst hpc
  exact own_st st (k T' ⟨locs, X', N, e', hn0⟩)
theorem own_getF (Y : own_S p l e R s m args below meth c n0 T h cl sl) (hx : p.tables.exec = Jvm.exec) {own R0 O n d host : String} {index : Nat} {a : Addr} (hZ : Z.Warmed39 s.vm) (hown : s.vm.findClass own = some m.cls) (w : (Jvm.Cond.fieldLink own index R0 n d).before a0 Z = true ∨ (Jvm.Cond.fieldLinkNest own index R0 n d host).before a0 Z = true) (via : Via Z R0 O n d) (F : Fld Z h a O n d v)
    (hd : decode c.code pc = .ok (.getfield index, 3)) (hpc : pc + 3 = pc') (k : ∀ T', own_S p l e R s m args below meth c n0 T' h cl sl → own_Fin p e below K (T'.setTop (mkF m pc' Ls (v :: S)))) : own_Fin p e below K (T.setTop (mkF m pc Ls (.ref a :: S))) := by
  obtain ⟨locs, X, N, e0, hn0⟩ := Y
  obtain ⟨T', X', e', st⟩ := getF X hx hZ hown w via e0 F (g := mkF m pc Ls (.ref a :: S)) rfl rfl hd
  subst hpc
  exact own_st st (k T' ⟨locs, X', N, e', hn0⟩)
theorem own_putF (Y : own_S p l e R s m args below meth c n0 T h cl sl) (hx : p.tables.exec = Jvm.exec) {own R0 O n d host C : String} {index kk : Nat} {a : Addr} {ty : FieldType} {old : Value} (hZ : Z.Warmed39 s.vm) (hown : s.vm.findClass own = some m.cls) (w : (Jvm.Cond.fieldLink own index R0 n d).before a0 Z = true ∨ (Jvm.Cond.fieldLinkNest own index R0 n d host).before a0 Z = true) (via : Via Z R0 O n d) (F : Fld Z h a O n d old) (E : Exa Z h a C)
    (L : (Jvm.Cond.lays C O n d).before a0 Z = true ∨ ((Jvm.Cond.laysFinal C O n d).before a0 Z = true ∧ own = O ∧ meth.name = "<init>")) (wi : (Jvm.Cond.instantiable C kk).before a0 Z = true) (hty : parseFieldDescriptor d = some ty) (hn : narrow ty v = v) (hf : fits ty v = true) (ha : n0 ≤ a)
    (hd : decode c.code pc = .ok (.putfield index, 3)) (hpc : pc + 3 = pc') (k : ∀ T' h', own_S p l e R s m args below meth c n0 T' h' cl sl → own_Kp h h' [(a, Jvm.RoadKit.slotOf Z O n d)] → Fld Z h' a O n d v → own_Fin p e below K (T'.setTop (mkF m pc' Ls S))) : own_Fin p e below K (T.setTop (mkF m pc Ls (v :: .ref a :: S))) := by
  obtain ⟨locs, X, N, e0, hn0⟩ := Y
  obtain ⟨T', h', X', e', W, st⟩ := putF X hx hZ hown w via e0 F E L wi hty hn hf (g := mkF m pc Ls (v :: .ref a :: S)) rfl rfl hd
  subst hpc
  exact own_st st (k T' h' ⟨_, X', Fr.snoc X' N ha, e', by rw [W.size]; exact hn0⟩ (own_Kp.of_wr W) (F.same W))
theorem own_new (Y : own_S p l e R s m args below meth c n0 T h cl sl) (hx : p.tables.exec = Jvm.exec) {own C : String} {index n cl' sl' : Nat} (hZ : Z.Warmed39 s.vm) (hown : s.vm.findClass own = some m.cls) (w : (Jvm.Cond.classLink own index C).before a0 Z = true) (wi : (Jvm.Cond.instantiable C n).before a0 Z = true) (wz : (Jvm.Cond.initialized C).before a0 Z = true)
    (hd : decode c.code pc = .ok (.new index, 3)) (hpc : pc + 3 = pc') (hcl : cl + 1 = cl') (hsl : sl + n = sl') (hc : cl' ≤ R.cells) (hl : sl' ≤ R.slots)
    (k : ∀ T' h' b, own_S p l e R s m args below meth c n0 T' h' cl' sl' → own_Kp h h' [] → Array.size h ≤ b → Exa Z h' b C → (∀ {O nm d : String} {ty : FieldType}, Laid Z a0 C O nm d → parseFieldDescriptor d = some ty → Fld Z h' b O nm d (defaultValue ty)) → own_Fin p e below K (T'.setTop (mkF m pc' Ls (.ref b :: S)))) : own_Fin p e below K (T.setTop (mkF m pc Ls S)) := by
  obtain ⟨locs, X, N, e0, hn0⟩ := Y
  subst hpc hcl hsl
  obtain ⟨T', h', X', e', E, A, D, -, st⟩ := newO X hx hZ hown w wi wz e0 (g := mkF m pc Ls S) rfl hd hc hl
  exact own_st st (k T' h' _ ⟨locs, X', N, e', Nat.le_trans hn0 E.1⟩ (own_Kp.of_ext E []) (Nat.le_refl _) A D)
theorem own_castY (Y : own_S p l e R s m args below meth c n0 T h cl sl) (hx : p.tables.exec = Jvm.exec) {own C : String} {index : Nat} {a : Addr} (hZ : Z.Warmed39 s.vm) (hown : s.vm.findClass own = some m.cls) (w : (Jvm.Cond.classLink own index C).before a0 Z = true) (F : Ins Z h a C true)
    (hd : decode c.code pc = .ok (.checkcast index, 3)) (hpc : pc + 3 = pc') (k : ∀ T', own_S p l e R s m args below meth c n0 T' h cl sl → own_Fin p e below K (T'.setTop (mkF m pc' Ls (.ref a :: S)))) : own_Fin p e below K (T.setTop (mkF m pc Ls (.ref a :: S))) := by
  obtain ⟨locs, X, N, e0, hn0⟩ := Y
  obtain ⟨T', X', e', st⟩ := castY X hx hZ hown w e0 F (g := mkF m pc Ls (.ref a :: S)) rfl rfl hd
  subst hpc
  exact own_st st (k T' ⟨locs, X', N, e', hn0⟩)
theorem own_castNull (Y : own_S p l e R s m args below meth c n0 T h cl sl) (hx : p.tables.exec = Jvm.exec) {index : Nat} (hd : decode c.code pc = .ok (.checkcast index, 3)) (hpc : pc + 3 = pc') (k : own_Fin p e below K (T.setTop (mkF m pc' Ls (.null :: S)))) : own_Fin p e below K (T.setTop (mkF m pc Ls (.null :: S))) := by
  obtain ⟨locs, X, N, e0, hn0⟩ := Y
  subst hpc
  exact own_st (fun t k => X.checkcastNull hx (g := mkF m pc Ls (.null :: S)) rfl rfl hd t k) k
theorem own_instY (Y : own_S p l e R s m args below meth c n0 T h cl sl) (hx : p.tables.exec = Jvm.exec) {own C : String} {index : Nat} {a : Addr} (hZ : Z.Warmed39 s.vm) (hown : s.vm.findClass own = some m.cls) (w : (Jvm.Cond.classLink own index C).before a0 Z = true) (F : Ins Z h a C true)
    (hd : decode c.code pc = .ok (.instanceof index, 3)) (hpc : pc + 3 = pc') (k : ∀ T', own_S p l e R s m args below meth c n0 T' h cl sl → own_Fin p e below K (T'.setTop (mkF m pc' Ls (.int (1 : Int32) :: S)))) : own_Fin p e below K (T.setTop (mkF m pc Ls (.ref a :: S))) := by
  obtain ⟨locs, X, N, e0, hn0⟩ := Y
  obtain ⟨T', X', e', st⟩ := instY X hx hZ hown w e0 F (g := mkF m pc Ls (.ref a :: S)) rfl rfl hd
  subst hpc
  exact own_st st (k T' ⟨locs, X', N, e', hn0⟩)
theorem own_instN (Y : own_S p l e R s m args below meth c n0 T h cl sl) (hx : p.tables.exec = Jvm.exec) {own C C' : String} {index : Nat} {a : Addr} (hZ : Z.Warmed39 s.vm) (hown : s.vm.findClass own = some m.cls) (w : (Jvm.Cond.classLink own index C).before a0 Z = true) (E : Exa Z h a C') (F : ∃ c t, Z.vm.findClass C' = some c ∧ Z.vm.findClass C = some t ∧ Z.vm.assignable c t = false)
    (hd : decode c.code pc = .ok (.instanceof index, 3)) (hpc : pc + 3 = pc') (k : ∀ T', own_S p l e R s m args below meth c n0 T' h cl sl → own_Fin p e below K (T'.setTop (mkF m pc' Ls (.int (0 : Int32) :: S)))) : own_Fin p e below K (T.setTop (mkF m pc Ls (.ref a :: S))) := by
  obtain ⟨locs, X, N, e0, hn0⟩ := Y
  obtain ⟨T', X', e', st⟩ := instNo X hx hZ hown w e0 E F (g := mkF m pc Ls (.ref a :: S)) rfl rfl hd
  subst hpc
  exact own_st st (k T' ⟨locs, X', N, e', hn0⟩)
theorem own_initO (Y : own_S p l e R s m args below meth c n0 T h cl sl) (hx : p.tables.exec = Jvm.exec) {own : String} {index : Nat} {a : Addr} {W : Nat} (hZ : Z.Warmed39 s.vm) (hown : s.vm.findClass own = some m.cls) (w1 : (Jvm.Cond.methodLink own index Lib.objectInit).before a0 Z = true) (w2 : (Jvm.Cond.instanceMethod Lib.objectInit).before a0 Z = true) (w3 : (Jvm.Cond.code Lib.objectInit ⟨#[0xb1]⟩ 1 none).before a0 Z = true)
    (hd : decode c.code pc = .ok (.invokespecial index, 3)) (hpc : pc + 3 = pc') (hsize : Ls.size = c.maxLocals) (hf : 1 ≤ R.frames) (hW : (S.map fun v => v.category).sum = W) (hl : W + 12 ≤ R.locals)
    (k : ∀ T', own_S p l e R s m args below meth c n0 T' h cl sl → own_Fin p e below K (T'.setTop (mkF m pc' Ls S))) : own_Fin p e below K (T.setTop (mkF m pc Ls (.ref a :: S))) := by
  obtain ⟨locs, X, N, e0, hn0⟩ := Y
  obtain ⟨T', X', e', st⟩ := initO X hx hZ hown w1 w2 w3 e0 (g := mkF m pc Ls (.ref a :: S)) rfl hsize rfl hd hf (W := W) (by show 2 * 0 + _ ≤ _; omega) hl
  subst hpc
  exact own_st st (k T' ⟨locs, X', N, e', hn0⟩)
/-! calls -/
/-- where a call has come back: the state, its heap, what the callee's P says -/
abbrev own_Back (p : Program) (l : Launch) (e : Env) (R : Room) (s : State) (m : MethodId) (args : Array Value) (below : List Frame) (meth : Method) (c : Code) (n0 cl' sl' : Nat) (K : Outcome → State → Prop) (P : Option Value → Heap → Prop) (pc' : Nat) (Ls : Array Slot) (S' : List Value) : Prop :=
  ∀ T' h' v, own_S p l e R s m args below meth c n0 T' h' cl' sl' → P v h' → own_Fin p e below K (T'.setTop (mkF m pc' Ls (v.toList ++ S')))
theorem own_static (Y : own_S p l e R s m args below meth c n0 T h cl sl) (hx : p.tables.exec = Jvm.exec) {own : String} {index : Nat} {y : MethodName} {bytes : ByteArray} {maxL : Nat} {ret : Option FieldType} {rm : Room} {W cl' sl' : Nat} {as' : List Value} {P : Option Value → Heap → Prop} {S' : List Value} (hZ : Z.Warmed39 s.vm) (hown : s.vm.findClass own = some m.cls) (w1 : (Jvm.Cond.methodLink own index y).before a0 Z = true) (w2 : (Jvm.Cond.static y).before a0 Z = true) (w3 : (Jvm.Cond.initialized y.cls).before a0 Z = true) (w4 : (Jvm.Cond.code y bytes maxL ret).before a0 Z = true) (hy : y.cls ≠ "java/lang/invoke/MethodHandle" ∧ y.cls ≠ "java/lang/invoke/VarHandle")
    (hM : MetFree l y (head1 [Jvm.Cond.code y bytes maxL ret] rm) (fun a U => a = as'.toArray ∧ Z.Warmed39 U.vm ∧ U.heap = h) (fun _ _ _ _ _ => True) (fun _ U o U' => ∃ v L, o = .returned v ∧ own_QQ n0 P v U'.heap L ∧ FrameEnd U o U' L rm.cells rm.slots))
    (hd : decode c.code pc = .ok (.invokestatic index, 3)) (hpc : pc + 3 = pc') (hsize : Ls.size = c.maxLocals) (hS : S = as'.reverse ++ S') (hlen : ∀ sig, parseMethodDescriptor y.desc = some sig → as'.length = sig.parameters.length) (hW : (S'.map fun v => v.category).sum = W)
    (hfr : rm.frames + 1 ≤ R.frames) (hlo : W + (maxL + 11) + rm.locals ≤ R.locals) (hcl : cl + rm.cells = cl') (hsl : sl + rm.slots = sl') (hc : cl' ≤ R.cells) (hl : sl' ≤ R.slots) (hsz : ∀ v h', P v h' → Array.size h ≤ Array.size h')
    (k : own_Back p l e R s m args below meth c n0 cl' sl' K P pc' Ls S') : own_Fin p e below K (T.setTop (mkF m pc Ls S)) := by
  obtain ⟨locs, X, N, e0, hn0⟩ := Y
  subst hpc hcl hsl
  obtain ⟨v, _, ⟨T', L', k', n'⟩, -, X', ⟨Lc, ⟨Nq, hP⟩, hl1, hy1, hz1⟩, st⟩ := Jvm.LawKit.callS X hx (y := y) hown (mvT hZ w1) (mvT hZ w2) (mvT hZ w3) (mvT hZ w4) hy (backOf (W := W) hM hZ w4 w3 hfr hlo) (g := mkF m pc Ls S) rfl hsize (argsL := as') (rest := S') hlen hS (by show 2 * 0 + _ ≤ _; omega) hd (fun _ _ => ⟨rfl, e0, hc, hl⟩)
  dsimp only [Pt.U, Pt.locs, Pt.cells, Pt.slots] at X' hl1 hy1 hz1 st hP
  subst hl1 hy1 hz1
  exact own_st st (k T' T'.heap v ⟨_, X', Fr.app N Nq, rfl, Nat.le_trans hn0 (hsz _ _ hP)⟩ hP)
theorem own_special (Y : own_S p l e R s m args below meth c n0 T h cl sl) (hx : p.tables.exec = Jvm.exec) {own : String} {index : Nat} {y : MethodName} {bytes : ByteArray} {maxL : Nat} {rm : Room} {W cl' sl' : Nat} {a : Addr} {as' : List Value} {P : Option Value → Heap → Prop} {S' : List Value} (hy1 : y.name = "<init>") (hZ : Z.Warmed39 s.vm) (hown : s.vm.findClass own = some m.cls) (w1 : (Jvm.Cond.methodLink own index y).before a0 Z = true) (w2 : (Jvm.Cond.instanceMethod y).before a0 Z = true) (w3 : (Jvm.Cond.initialized y.cls).before a0 Z = true) (w4 : (Jvm.Cond.code y bytes maxL none).before a0 Z = true) (hy : y.cls ≠ "java/lang/invoke/MethodHandle" ∧ y.cls ≠ "java/lang/invoke/VarHandle")
    (hM : MetFree l y (head1 [Jvm.Cond.code y bytes maxL none] rm) (fun b U => b = (.ref a :: as').toArray ∧ Z.Warmed39 U.vm ∧ U.heap = h) (fun _ _ _ _ _ => True) (fun _ U o U' => ∃ v L, o = .returned v ∧ own_QQ n0 P v U'.heap L ∧ FrameEnd U o U' L rm.cells rm.slots))
    (hd : decode c.code pc = .ok (.invokespecial index, 3)) (hpc : pc + 3 = pc') (hsize : Ls.size = c.maxLocals) (hS : S = as'.reverse ++ .ref a :: S') (hlen : ∀ sig, parseMethodDescriptor y.desc = some sig → as'.length = sig.parameters.length) (hW : (S'.map fun v => v.category).sum = W)
    (hfr : rm.frames + 1 ≤ R.frames) (hlo : W + (maxL + 11) + rm.locals ≤ R.locals) (hcl : cl + rm.cells = cl') (hsl : sl + rm.slots = sl') (hc : cl' ≤ R.cells) (hl : sl' ≤ R.slots) (hsz : ∀ v h', P v h' → Array.size h ≤ Array.size h')
    (k : own_Back p l e R s m args below meth c n0 cl' sl' K P pc' Ls S') : own_Fin p e below K (T.setTop (mkF m pc Ls S)) := by
  obtain ⟨locs, X, N, e0, hn0⟩ := Y
  subst hpc hcl hsl
  obtain ⟨v, _, ⟨T', L', k', n'⟩, -, X', ⟨Lc, ⟨Nq, hP⟩, hl1, hy1, hz1⟩, st⟩ := X.specialBack hx (y := y) hy1 hown (mvT hZ w1) (mvT hZ w2) (mvT hZ w4) hy (backOf (W := W) hM hZ w4 w3 hfr hlo) (g := mkF m pc Ls S) rfl hsize (Steps.refl _) (a := a) (argsL := as') (rest := S') hlen hS (by show 2 * 0 + _ ≤ _; omega) hd (fun _ _ => ⟨rfl, e0, hc, hl⟩)
  dsimp only [Pt.U, Pt.locs, Pt.cells, Pt.slots] at X' hl1 hy1 hz1 st hP
  subst hl1 hy1 hz1
  exact own_tr st (k T' T'.heap v ⟨_, X', Fr.app N Nq, rfl, Nat.le_trans hn0 (hsz _ _ hP)⟩ hP)
theorem own_private (Y : own_S p l e R s m args below meth c n0 T h cl sl) (hx : p.tables.exec = Jvm.exec) {own C : String} {index : Nat} {y : MethodName} {bytes : ByteArray} {maxL : Nat} {ret : Option FieldType} {rm : Room} {W cl' sl' : Nat} {a : Addr} {as' : List Value} {P : Option Value → Heap → Prop} {S' : List Value} (hZ : Z.Warmed39 s.vm) (hown : s.vm.findClass own = some m.cls) (w1 : (Jvm.Cond.methodLink own index y).before a0 Z = true) (w2 : (Jvm.Cond.instanceMethod y).before a0 Z = true) (w5 : (Jvm.Cond.selects y.cls y y).before args s = true) (w6 : (Jvm.Cond.privateMethod y).before a0 Z = true) (w3 : (Jvm.Cond.initialized y.cls).before a0 Z = true) (w4 : (Jvm.Cond.code y bytes maxL ret).before a0 Z = true) (hy : y.cls ≠ "java/lang/invoke/MethodHandle" ∧ y.cls ≠ "java/lang/invoke/VarHandle") (E : Exa Z h a C)
    (hM : MetFree l y (head1 [Jvm.Cond.code y bytes maxL ret] rm) (fun b U => b = (.ref a :: as').toArray ∧ Z.Warmed39 U.vm ∧ U.heap = h) (fun _ _ _ _ _ => True) (fun _ U o U' => ∃ v L, o = .returned v ∧ own_QQ n0 P v U'.heap L ∧ FrameEnd U o U' L rm.cells rm.slots))
    (hd : decode c.code pc = .ok (.invokevirtual index, 3)) (hpc : pc + 3 = pc') (hsize : Ls.size = c.maxLocals) (hS : S = as'.reverse ++ .ref a :: S') (hlen : ∀ sig, parseMethodDescriptor y.desc = some sig → as'.length = sig.parameters.length) (hW : (S'.map fun v => v.category).sum = W)
    (hfr : rm.frames + 1 ≤ R.frames) (hlo : W + (maxL + 11) + rm.locals ≤ R.locals) (hcl : cl + rm.cells = cl') (hsl : sl + rm.slots = sl') (hc : cl' ≤ R.cells) (hl : sl' ≤ R.slots) (hsz : ∀ v h', P v h' → Array.size h ≤ Array.size h')
    (k : own_Back p l e R s m args below meth c n0 cl' sl' K P pc' Ls S') : own_Fin p e below K (T.setTop (mkF m pc Ls S)) := by
  obtain ⟨locs, X, N, e0, hn0⟩ := Y
  subst hpc hcl hsl
  obtain ⟨cq, q1, q2⟩ := E.cell
  obtain ⟨v, _, ⟨T', L', k', n'⟩, -, X', ⟨Lc, ⟨Nq, hP⟩, hl1, hy1, hz1⟩, st⟩ := X.privateBack hx (y := y) hown (mvT hZ w1) (mvT hZ w2) w5 (Cond.privateMethod_at (mvP hZ w6 (args := #[]))) (mvT hZ w4) hy (backOf (W := W) hM hZ w4 w3 hfr hlo) (g := mkF m pc Ls S) rfl hsize (Steps.refl _) (a := a) (by rw [e0]; exact q1) q2 (argsL := as') (rest := S') hlen hS (by show 2 * 0 + _ ≤ _; omega) hd (fun _ _ => ⟨rfl, e0, hc, hl⟩)
  dsimp only [Pt.U, Pt.locs, Pt.cells, Pt.slots] at X' hl1 hy1 hz1 st hP
  subst hl1 hy1 hz1
  exact own_tr st (k T' T'.heap v ⟨_, X', Fr.app N Nq, rfl, Nat.le_trans hn0 (hsz _ _ hP)⟩ hP)
theorem own_virtual (Y : own_S p l e R s m args below meth c n0 T h cl sl) (hx : p.tables.exec = Jvm.exec) {own C : String} {index : Nat} {y z : MethodName} {bytes : ByteArray} {maxL : Nat} {ret : Option FieldType} {rm : Room} {W cl' sl' : Nat} {a : Addr} {as' : List Value} {P : Option Value → Heap → Prop} {S' : List Value} (hZ : Z.Warmed39 s.vm) (hown : s.vm.findClass own = some m.cls) (w1 : (Jvm.Cond.methodLink own index y).before a0 Z = true) (w2 : (Jvm.Cond.declares y).before a0 Z = true) (nf : NotFace s y) (w5 : (Jvm.Cond.selects C y z).before a0 Z = true) (w6 : (Jvm.Cond.instanceMethod z).before a0 Z = true) (w3 : (Jvm.Cond.initialized z.cls).before a0 Z = true) (w4 : (Jvm.Cond.code z bytes maxL ret).before a0 Z = true) (hy : y.cls ≠ "java/lang/invoke/MethodHandle" ∧ y.cls ≠ "java/lang/invoke/VarHandle") (E : Exa Z h a C)
    (hM : MetFree l z (head1 [Jvm.Cond.code z bytes maxL ret] rm) (fun b U => b = (.ref a :: as').toArray ∧ Z.Warmed39 U.vm ∧ U.heap = h) (fun _ _ _ _ _ => True) (fun _ U o U' => ∃ v L, o = .returned v ∧ own_QQ n0 P v U'.heap L ∧ FrameEnd U o U' L rm.cells rm.slots))
    (hd : decode c.code pc = .ok (.invokevirtual index, 3)) (hpc : pc + 3 = pc') (hsize : Ls.size = c.maxLocals) (hS : S = as'.reverse ++ .ref a :: S') (hlen : ∀ sig, parseMethodDescriptor y.desc = some sig → as'.length = sig.parameters.length) (hW : (S'.map fun v => v.category).sum = W)
    (hfr : rm.frames + 1 ≤ R.frames) (hlo : W + (maxL + 11) + rm.locals ≤ R.locals) (hcl : cl + rm.cells = cl') (hsl : sl + rm.slots = sl') (hc : cl' ≤ R.cells) (hl : sl' ≤ R.slots) (hsz : ∀ v h', P v h' → Array.size h ≤ Array.size h')
    (k : own_Back p l e R s m args below meth c n0 cl' sl' K P pc' Ls S') : own_Fin p e below K (T.setTop (mkF m pc Ls S)) := by
  obtain ⟨locs, X, N, e0, hn0⟩ := Y
  subst hpc hcl hsl
  obtain ⟨cq, kq, qa, qb, qc⟩ := isOf hZ e0 E
  obtain ⟨v, _, ⟨T', L', k', n'⟩, -, X', ⟨Lc, ⟨Nq, hP⟩, hl1, hy1, hz1⟩, st⟩ := X.virtualBack hx (y := y) (z := z) hown (mvT hZ w1) (mvT hZ w2) nf (mvT hZ w5) (mvT hZ w6) hy (backOf (W := W) hM hZ w4 w3 hfr hlo) qa qc (g := mkF m pc Ls S) rfl hsize (Steps.refl _) (argsL := as') (rest := S') hlen hS (by show 2 * 0 + _ ≤ _; omega) hd (fun _ _ => ⟨rfl, e0, hc, hl⟩)
  dsimp only [Pt.U, Pt.locs, Pt.cells, Pt.slots] at X' hl1 hy1 hz1 st hP
  subst hl1 hy1 hz1
  exact own_tr st (k T' T'.heap v ⟨_, X', Fr.app N Nq, rfl, Nat.le_trans hn0 (hsz _ _ hP)⟩ hP)
theorem own_virtualUp (Y : own_S p l e R s m args below meth c n0 T h cl sl) (hx : p.tables.exec = Jvm.exec) {own C owner : String} {index : Nat} {y z : MethodName} {bytes : ByteArray} {maxL : Nat} {ret : Option FieldType} {rm : Room} {W cl' sl' : Nat} {a : Addr} {as' : List Value} {P : Option Value → Heap → Prop} {S' : List Value} (hZ : Z.Warmed39 s.vm) (hown : s.vm.findClass own = some m.cls) (w1 : (Jvm.Cond.methodLink own index y).before a0 Z = true) (w7 : (Jvm.Cond.sameMethod y.cls owner y.name y.desc).before a0 Z = true) (w2 : (Jvm.Cond.declares ⟨owner, y.name, y.desc⟩).before a0 Z = true) (w5 : (Jvm.Cond.selects C y z).before a0 Z = true) (w6 : (Jvm.Cond.instanceMethod z).before a0 Z = true) (w3 : (Jvm.Cond.initialized z.cls).before a0 Z = true) (w4 : (Jvm.Cond.code z bytes maxL ret).before a0 Z = true) (hy : owner ≠ "java/lang/invoke/MethodHandle" ∧ owner ≠ "java/lang/invoke/VarHandle") (E : Exa Z h a C)
    (hM : MetFree l z (head1 [Jvm.Cond.code z bytes maxL ret] rm) (fun b U => b = (.ref a :: as').toArray ∧ Z.Warmed39 U.vm ∧ U.heap = h) (fun _ _ _ _ _ => True) (fun _ U o U' => ∃ v L, o = .returned v ∧ own_QQ n0 P v U'.heap L ∧ FrameEnd U o U' L rm.cells rm.slots))
    (hd : decode c.code pc = .ok (.invokevirtual index, 3)) (hpc : pc + 3 = pc') (hsize : Ls.size = c.maxLocals) (hS : S = as'.reverse ++ .ref a :: S') (hlen : ∀ sig, parseMethodDescriptor y.desc = some sig → as'.length = sig.parameters.length) (hW : (S'.map fun v => v.category).sum = W)
    (hfr : rm.frames + 1 ≤ R.frames) (hlo : W + (maxL + 11) + rm.locals ≤ R.locals) (hcl : cl + rm.cells = cl') (hsl : sl + rm.slots = sl') (hc : cl' ≤ R.cells) (hl : sl' ≤ R.slots) (hsz : ∀ v h', P v h' → Array.size h ≤ Array.size h')
    (k : own_Back p l e R s m args below meth c n0 cl' sl' K P pc' Ls S') : own_Fin p e below K (T.setTop (mkF m pc Ls S)) := by
  obtain ⟨locs, X, N, e0, hn0⟩ := Y
  subst hpc hcl hsl
  obtain ⟨cq, kq, qa, qb, qc⟩ := isOf hZ e0 E
  obtain ⟨v, _, ⟨T', L', k', n'⟩, -, X', ⟨Lc, ⟨Nq, hP⟩, hl1, hy1, hz1⟩, st⟩ := X.virtualBackUp hx (owner := owner) (x := y) (y := z) hown (mvT hZ w1) (mvT hZ w7) (mvT hZ w2) hy (mvT hZ w5) (mvT hZ w6) (backOf (W := W) hM hZ w4 w3 hfr hlo) qa qc (g := mkF m pc Ls S) rfl hsize (Steps.refl _) (argsL := as') (rest := S') hlen hS (by show 2 * 0 + _ ≤ _; omega) hd (fun _ _ => ⟨rfl, e0, hc, hl⟩)
  dsimp only [Pt.U, Pt.locs, Pt.cells, Pt.slots] at X' hl1 hy1 hz1 st hP
  subst hl1 hy1 hz1
  exact own_tr st (k T' T'.heap v ⟨_, X', Fr.app N Nq, rfl, Nat.le_trans hn0 (hsz _ _ hP)⟩ hP)
theorem own_iface (Y : own_S p l e R s m args below meth c n0 T h cl sl) (hx : p.tables.exec = Jvm.exec) {own C : String} {index count : Nat} {y z : MethodName} {bytes : ByteArray} {maxL : Nat} {ret : Option FieldType} {rm : Room} {W cl' sl' : Nat} {a : Addr} {as' : List Value} {P : Option Value → Heap → Prop} {S' : List Value} (hZ : Z.Warmed39 s.vm) (hown : s.vm.findClass own = some m.cls) (w1 : (Jvm.Cond.methodLink own index y).before a0 Z = true) (w2 : (Jvm.Cond.declares y).before a0 Z = true) (w7 : (Jvm.Cond.interfaceMethod y.cls y.cls y.name y.desc).before args s = true) (w5 : (Jvm.Cond.selects C y z).before a0 Z = true) (w6 : (Jvm.Cond.instanceMethod z).before a0 Z = true) (w8 : (Jvm.Cond.publicMethod z).before a0 Z = true) (w9 : (Jvm.Cond.unhidden C y.name y.desc).before a0 Z = true) (w10 : (Jvm.Cond.castable C y.cls).before a0 Z = true) (w3 : (Jvm.Cond.initialized z.cls).before a0 Z = true) (w4 : (Jvm.Cond.code z bytes maxL ret).before a0 Z = true) (hy : y.cls ≠ "java/lang/invoke/MethodHandle" ∧ y.cls ≠ "java/lang/invoke/VarHandle") (E : Exa Z h a C)
    (hM : MetFree l z (head1 [Jvm.Cond.code z bytes maxL ret] rm) (fun b U => b = (.ref a :: as').toArray ∧ Z.Warmed39 U.vm ∧ U.heap = h) (fun _ _ _ _ _ => True) (fun _ U o U' => ∃ v L, o = .returned v ∧ own_QQ n0 P v U'.heap L ∧ FrameEnd U o U' L rm.cells rm.slots))
    (hd : decode c.code pc = .ok (.invokeinterface index count, 5)) (hpc : pc + 5 = pc') (hsize : Ls.size = c.maxLocals) (hS : S = as'.reverse ++ .ref a :: S') (hlen : ∀ sig, parseMethodDescriptor y.desc = some sig → as'.length = sig.parameters.length) (hW : (S'.map fun v => v.category).sum = W)
    (hfr : rm.frames + 1 ≤ R.frames) (hlo : W + (maxL + 11) + rm.locals ≤ R.locals) (hcl : cl + rm.cells = cl') (hsl : sl + rm.slots = sl') (hc : cl' ≤ R.cells) (hl : sl' ≤ R.slots) (hsz : ∀ v h', P v h' → Array.size h ≤ Array.size h')
    (k : own_Back p l e R s m args below meth c n0 cl' sl' K P pc' Ls S') : own_Fin p e below K (T.setTop (mkF m pc Ls S)) := by
  obtain ⟨locs, X, N, e0, hn0⟩ := Y
  subst hpc hcl hsl
  obtain ⟨cq, kq, qa, qb, qc⟩ := isOf hZ e0 E
  obtain ⟨v, _, ⟨T', L', k', n'⟩, -, X', ⟨Lc, ⟨Nq, hP⟩, hl1, hy1, hz1⟩, st⟩ := X.interfaceBack hx (xi := y) (y := z) hown (mvT hZ w1) (mvT hZ w2) w7 (mvT hZ w5) (mvT hZ w6) (mvT hZ w8) (mvT hZ w9) (mvT hZ w10) hy (backOf (W := W) hM hZ w4 w3 hfr hlo) qa qb qc (g := mkF m pc Ls S) rfl hsize (Steps.refl _) (argsL := as') (rest := S') hlen hS (by show 2 * 0 + _ ≤ _; omega) hd (fun _ _ => ⟨rfl, e0, hc, hl⟩)
  dsimp only [Pt.U, Pt.locs, Pt.cells, Pt.slots] at X' hl1 hy1 hz1 st hP
  subst hl1 hy1 hz1
  exact own_tr st (k T' T'.heap v ⟨_, X', Fr.app N Nq, rfl, Nat.le_trans hn0 (hsz _ _ hP)⟩ hP)
/-! leaving -/
theorem own_leave (Y : own_S p l e R s m args below meth c n0 T h cl sl) (hx : p.tables.exec = Jvm.exec) {r : Option Value} {P : Option Value → Heap → Prop} {kc ks : Nat} (hlk : meth.locks = false) (hv : meth.sig.returnType = none → r = none) (hP : P r h) (hc : cl ≤ kc) (hs : sl ≤ ks) (k : ∀ {locs : List Loc} {fs : List Frame}, Stand p l e R s m args below meth c T locs cl sl → (∀ (f : JFrame) (acts : List Action), f.method = m → f.locked = none → f.entered = [] → (doReturn e (T.setTop f) acts r).1 = T.setFrames fs) → Steps p.tables e below (T.setTop (mkF m pc Ls S)) (T.setFrames fs)) :
    own_Fin p e below (fun o U' => ∃ v L, o = .returned v ∧ own_QQ n0 P v U'.heap L ∧ FrameEnd s o U' L kc ks) (T.setTop (mkF m pc Ls S)) := by
  obtain ⟨locs, X, N, e0, hn0⟩ := Y
  obtain ⟨fs, hr, hrun, hended, hW, hsame⟩ := X.leave (v := r) hv hlk
  exact ⟨_, _, k X hr, hrun, hended, _, _, rfl, ⟨N, e0 ▸ hP⟩, ⟨_, rfl⟩, hW, hsame.mono hc hs⟩
theorem own_ret0 (Y : own_S p l e R s m args below meth c n0 T h cl sl) (hx : p.tables.exec = Jvm.exec) {P : Option Value → Heap → Prop} {kc ks : Nat} (hlk : meth.locks = false) (hret : meth.sig.returnType = none) (hd : decode c.code pc = .ok (.return_, 1)) (hP : P none h) (hc : cl ≤ kc) (hs : sl ≤ ks) :
    own_Fin p e below (fun o U' => ∃ v L, o = .returned v ∧ own_QQ n0 P v U'.heap L ∧ FrameEnd s o U' L kc ks) (T.setTop (mkF m pc Ls [])) :=
  own_leave Y hx (r := none) hlk (fun _ => rfl) hP hc hs fun X hr => X.returnOut hx hret hd hr
theorem own_retN (Y : own_S p l e R s m args below meth c n0 T h cl sl) (hx : p.tables.exec = Jvm.exec) {P : Option Value → Heap → Prop} {kc ks : Nat} {z : Int32} {t : FieldType} (hlk : meth.locks = false) (hret : meth.sig.returnType = some t) (hz : narrow t (.int z) = .int z) (ht : t = .int ∨ t = .boolean ∨ t = .byte ∨ t = .char ∨ t = .short) (hd : decode c.code pc = .ok (.ireturn, 1)) (hP : P (some (.int z)) h) (hc : cl ≤ kc) (hs : sl ≤ ks) :
    own_Fin p e below (fun o U' => ∃ v L, o = .returned v ∧ own_QQ n0 P v U'.heap L ∧ FrameEnd s o U' L kc ks) (T.setTop (mkF m pc Ls (.int z :: S))) :=
  own_leave Y hx (r := some (.int z)) hlk (fun q => by rw [hret] at q; cases q) hP hc hs fun X hr => retOut X hx hret hz (Or.inl ⟨rfl, ht, z, rfl⟩) hd hr
theorem own_retA (Y : own_S p l e R s m args below meth c n0 T h cl sl) (hx : p.tables.exec = Jvm.exec) {P : Option Value → Heap → Prop} {kc ks : Nat} {t : FieldType} (hlk : meth.locks = false) (hret : meth.sig.returnType = some t) (hn : narrow t v = v) (ht : t.isReference = true) (hv : v.isRef = true) (hd : decode c.code pc = .ok (.areturn, 1)) (hP : P (some v) h) (hc : cl ≤ kc) (hs : sl ≤ ks) :
    own_Fin p e below (fun o U' => ∃ v L, o = .returned v ∧ own_QQ n0 P v U'.heap L ∧ FrameEnd s o U' L kc ks) (T.setTop (mkF m pc Ls (v :: S))) :=
  own_leave Y hx (r := some v) hlk (fun q => by rw [hret] at q; cases q) hP hc hs fun X hr => retOut X hx hret hn (Or.inr (Or.inr (Or.inr (Or.inr ⟨rfl, ht, hv⟩)))) hd hr
theorem own_w {Z : State} {a0 : Array Value} (hw : ∀ d ∈ tables_1, d.before a0 Z = true) (i : Nat) {d : Jvm.Cond} (q : tables_1[i]? = some d) : d.before a0 Z = true := hw d (List.mem_of_getElem? q)
/-- it returns r, the heap as it was -/
def own_Same (r : Option Value) (h0 : Heap) (v : Option Value) (h : Heap) : Prop := v = r ∧ h = h0
theorem own_Same.sz {r : Option Value} {h0 : Heap} : ∀ v h', own_Same r h0 v h' → Array.size h0 ≤ Array.size h' := fun _ _ q => by rw [q.2]; exact Nat.le_refl _
theorem own_fixS {p : Program} {l : Launch} {e : Env} {R : Room} {s : State} {m : MethodId} {args : Array Value} {below : List Frame} {meth : Method} {c : Code} {n0 cl' sl' : Nat} {K : Outcome → State → Prop} {r : Option Value} {h : Heap} {pc' : Nat} {Ls : Array Slot} {S' S2 : List Value} (q : r.toList ++ S' = S2)
    (k : ∀ T', own_S p l e R s m args below meth c n0 T' h cl' sl' → own_Fin p e below K (T'.setTop (mkF m pc' Ls S2))) : own_Back p l e R s m args below meth c n0 cl' sl' K (own_Same r h) pc' Ls S' := by
  intro T' h' v Y hP
  obtain ⟨rfl, rfl⟩ := hP
  subst q
  exact k T' Y
theorem own_fixR {p : Program} {l : Launch} {e : Env} {R : Room} {s : State} {m : MethodId} {args : Array Value} {below : List Frame} {meth : Method} {c : Code} {n0 cl' sl' : Nat} {K : Outcome → State → Prop} {r : Option Value} {P : Heap → Prop} {pc' : Nat} {Ls : Array Slot} {S' S2 : List Value} (q : r.toList ++ S' = S2)
    (k : ∀ T' h', own_S p l e R s m args below meth c n0 T' h' cl' sl' → P h' → own_Fin p e below K (T'.setTop (mkF m pc' Ls S2))) : own_Back p l e R s m args below meth c n0 cl' sl' K (own_R r P) pc' Ls S' := by
  intro T' h' v Y hP
  obtain ⟨rfl, hP⟩ := hP
  subst q
  exact k T' h' Y hP
theorem own_more {p : Program} {l : Launch} {e : Env} {R : Room} {s : State} {m : MethodId} {args : Array Value} {below : List Frame} {meth : Method} {c : Code} {n0 cl sl cl' sl' : Nat} {T : State} {h : Heap} (Y : own_S p l e R s m args below meth c n0 T h cl sl) (hc : cl ≤ cl') (hs : sl ≤ sl') : own_S p l e R s m args below meth c n0 T h cl' sl' := by
  obtain ⟨locs, X, N, e0, q⟩ := Y
  exact ⟨locs, X.more hc hs, N, e0, q⟩
end Walk
theorem own_eqI {args : Array Value} {s : State} {t : Term} {k : Int32} (h : (Jvm.Cond.eq t (.int k)).value args s none s [] = some true) : t.eval args s none [] s = some (.int k) := by
  cases ht : t.eval args s none [] s with
  | none => simp [Cond.value, ht] at h
  | some x => cases x <;> simp [Cond.value, ht, Term.eval] at h ⊢; exact h
theorem own_fld {args : Array Value} {s : State} {t : Term} {a : Addr} {C n d : String} {k : Int32} (ht : t.eval args s none [] s = some (.ref a)) (h : (Jvm.Cond.eq (.field t C n d) (.int k)).value args s none s [] = some true) : Fld s s.heap a C n d (.int k) :=
  Fld.start (by rw [← fld_at ht]; exact own_eqI h)
theorem own_fldR {args : Array Value} {s : State} {t u : Term} {a b : Addr} {C n d : String} (ht : t.eval args s none [] s = some (.ref a)) (hu : u.eval args s none [] s = some (.ref b)) (h : (Jvm.Cond.eq (.field t C n d) u).value args s none s [] = some true) : Fld s s.heap a C n d (.ref b) := by
  refine Fld.start ?_
  rw [← fld_at ht]
  cases he : (Term.field t C n d).eval args s none [] s with
  | none => simp [Cond.value, he] at h
  | some x => cases x <;> simp [Cond.value, he, hu] at h ⊢; exact h
theorem own_differ {args : Array Value} {s : State} {t u : Term} {a b : Addr} (ht : t.eval args s none [] s = some (.ref a)) (hu : u.eval args s none [] s = some (.ref b)) (h : (Jvm.Cond.not (.eq t u)).value args s none s [] = some true) : a ≠ b := by
  have h1 := not_v h
  have h2 := gotF (eq_R ht hu rfl rfl) h1
  exact fun e => h2 (congrArg Value.ref e)
theorem own_pick {r : Int32} {k : Int} (h : r.toInt = k) : r = Int32.ofInt k := by rw [← h, Int32.ofInt_toInt]

/-- null, or an Integer -/
def own_Box (Z : State) (h : Heap) (v : Value) : Prop := v = .null ∨ ∃ (a : Addr) (x : Int32), v = .ref a ∧ Exa Z h a "java/lang/Integer" ∧ Fld Z h a "java/lang/Integer" "value" "I" (.int x)
def own_Off (v : Value) (L : List (Addr × Nat)) : Prop := ∀ a i, v = .ref a → (a, i) ∉ L
/-- the address that stands for v in a key's slot -/
def own_sa (w : Addr) : Value → Addr
  | .ref a => a
  | _ => w
/-- what Integer.valueOf(x) leaves -/
def own_PV (Z : State) (x : Int32) (h0 : Heap) (v : Option Value) (h : Heap) : Prop := ∃ b : Addr, v = some (.ref b) ∧ own_Kp h0 h [] ∧ Exa Z h b "java/lang/Integer" ∧ Fld Z h b "java/lang/Integer" "value" "I" (.int x)
def own_Cache (Z : State) (h : Heap) (w : Addr) : Prop := ∃ cl : Cell, Arr Z h w cl (.object "java/lang/Integer") ∧ ∀ x : Int32, ¬ (x < (-128 : Int32)) → ¬ ((127 : Int32) < x) → ∃ a : Addr, ¬ ((x + (128 : Int32)) < 0 ∨ cl.slots.size ≤ (x + (128 : Int32)).toNatClampNeg) ∧ cl.slots[(x + (128 : Int32)).toNatClampNeg]? = some (.ref a) ∧ Exa Z h a "java/lang/Integer" ∧ Fld Z h a "java/lang/Integer" "value" "I" (.int x)
theorem own_PV_sz {Z : State} {x : Int32} {h0 : Heap} : ∀ v h', own_PV Z x h0 v h' → Array.size h0 ≤ Array.size h' := by
  intro v h' q
  obtain ⟨b, -, K, -⟩ := q
  exact K.1
section Box
variable {Z : State} {h h' : Heap} {v : Value} {L : List (Addr × Nat)} {b : Addr} {j : Nat} {C : String}
theorem own_BoxRef (B : own_Box Z h v) : v.isRef = true := by rcases B with rfl | ⟨a, x, rfl, -, -⟩ <;> rfl
theorem own_off0 : own_Off v [] := fun _ _ _ q => nomatch q
theorem own_offS (q : ∀ a, v = .ref a → a ≠ b) (r : own_Off v L) : own_Off v ((b, j) :: L) := fun a i e => own_nin (Or.inl (q a e)) (r a i e)
theorem own_B (B : own_Box Z h v) (K : own_Kp h h' L) (q : own_Off v L) : own_Box Z h' v := by
  rcases B with rfl | ⟨a, x, rfl, E, F⟩
  · exact Or.inl rfl
  · exact Or.inr ⟨a, x, rfl, own_E E K, own_F F K (q a _ rfl)⟩
theorem own_offE (B : own_Box Z h v) (E : Exa Z h b C) (hC : "java/lang/Integer" ≠ C) : ∀ a, v = .ref a → a ≠ b := by
  intro a e
  rcases B with rfl | ⟨a', x, rfl, E', -⟩
  · cases e
  · cases e
    exact ne_exa E' E hC
theorem own_offN (B : own_Box Z h v) (le : Array.size h ≤ b) : ∀ a, v = .ref a → a ≠ b := by
  intro a e
  rcases B with rfl | ⟨a', x, rfl, E', -⟩
  · cases e
  · cases e
    exact Nat.ne_of_lt (Nat.lt_of_lt_of_le E'.lt le)
theorem own_stoB {cl : Cell} {ty : FieldType} {k : ClassId} (A : Arr Z h b cl ty) (q : cl.cls = k) (O : Ovr Z k "java/lang/Integer") (B : own_Box Z h v) : Sto Z h b v := by
  rcases B with rfl | ⟨a, x, rfl, E, -⟩
  · exact Or.inl rfl
  · exact Sto.ofV A q O (Ins.self E)
theorem own_CacheK {w : Addr} (F : own_Cache Z h w) (K : own_Kp h h' []) : own_Cache Z h' w := by
  obtain ⟨cl, A, hall⟩ := F
  obtain ⟨c', e1, -, -, -, -, e6⟩ := K.2 w cl A.1
  rw [e6 own_out0] at e1
  refine ⟨cl, ⟨e1, A.2⟩, fun x p q => ?_⟩
  obtain ⟨a, h1, h2, h3, h4⟩ := hall x p q
  exact ⟨a, h1, h2, own_E h3 K, own_F h4 K own_nin0⟩
end Box
section WalkB
variable {p : Program} {l : Launch} {e : Env} {R : Room} {s : State} {m : MethodId} {args : Array Value} {below : List Frame} {meth : Method} {c : Code} {n0 : Nat} {T : State} {h : Heap} {cl sl : Nat} {K : Outcome → State → Prop} {Z : State} {a0 : Array Value}
  {pc pc' : Nat} {Ls : Array Slot} {S : List Value} {v : Value} {b : Addr} {ty : FieldType} {kA : ClassId} {n j : Int32} {vs vs' : List Value} {dv : Value}
theorem own_castB (Y : own_S p l e R s m args below meth c n0 T h cl sl) (hx : p.tables.exec = Jvm.exec) {own : String} {index : Nat} (hZ : Z.Warmed39 s.vm) (hown : s.vm.findClass own = some m.cls) (w : (Jvm.Cond.classLink own index "java/lang/Integer").before a0 Z = true) (B : own_Box Z h v)
    (hd : decode c.code pc = .ok (.checkcast index, 3)) (hpc : pc + 3 = pc') (k : ∀ T', own_S p l e R s m args below meth c n0 T' h cl sl → own_Fin p e below K (T'.setTop (mkF m pc' Ls (v :: S)))) : own_Fin p e below K (T.setTop (mkF m pc Ls (v :: S))) := by
  rcases B with rfl | ⟨a, x, rfl, E, -⟩
  · exact own_castNull Y hx hd hpc (k T Y)
  · exact own_castY Y hx hZ hown w (Ins.self E) hd hpc k
theorem own_anew (Y : own_S p l e R s m args below meth c n0 T h cl sl) (hx : p.tables.exec = Jvm.exec) {own C : String} {index cap cl' sl' : Nat} (hZ : Z.Warmed39 s.vm) (hown : s.vm.findClass own = some m.cls) (w1 : (Jvm.Cond.classLink own index C).before a0 Z = true) (w2 : (Jvm.Cond.arrayOver (.object C)).before a0 Z = true)
    (hd : decode c.code pc = .ok (.anewarray index, 3)) (hpc : pc + 3 = pc') (hn : ¬ n < 0) (hcap : n.toNatClampNeg ≤ cap) (hb8 : cap * 8 ≤ 536870912) (hcl : cl + 1 = cl') (hsl : sl + cap = sl') (hc : cl' ≤ R.cells) (hl : sl' ≤ R.slots) (hvs : [] ++ List.replicate cap Value.null = vs)
    (k : ∀ T' h' b kA, own_S p l e R s m args below meth c n0 T' h' cl' sl' → own_Kp h h' [] → Array.size h ≤ b → Arv Z h' b kA (.object C) n vs .null → Ovr Z kA C → own_Fin p e below K (T'.setTop (mkF m pc' Ls (.ref b :: S)))) : own_Fin p e below K (T.setTop (mkF m pc Ls (.int n :: S))) := by
  obtain ⟨locs, X, N, e0, hn0⟩ := Y
  subst hpc hcl hsl hvs
  obtain ⟨T', h', kA, X', e', E, A, O, st⟩ := newR X hx hZ hown w1 w2 e0 (g := mkF m pc Ls (.int n :: S)) rfl hd rfl hn (cap := cap) hcap hb8 hc hl
  exact own_st st (k T' h' _ kA ⟨locs, X', N, e', Nat.le_trans hn0 E.1⟩ (own_Kp.of_ext E []) (Nat.le_refl _) ((Arv.new A hn).pad (pad_rep [] .null cap)) O)
theorem own_aast (Y : own_S p l e R s m args below meth c n0 T h cl sl) (hx : p.tables.exec = Jvm.exec) {i : Nat} (hZ : Z.Warmed39 s.vm) (A : Arv Z h b kA ty n vs dv) (hj : ¬ j < 0 ∧ j < n) (hi : j.toNatClampNeg = i) (hil : i < vs.length) (hty : ty.isReference = true) (hsto : ∀ cc, Arr Z h b cc ty → cc.cls = kA → Sto Z h b v) (hfit : fits ty v = true) (ha : n0 ≤ b) (hvs : vs.set i v = vs')
    (hd : decode c.code pc = .ok (.aastore, 1)) (hpc : pc + 1 = pc') (k : ∀ T' h', own_S p l e R s m args below meth c n0 T' h' cl sl → own_Kp h h' [(b, i)] → Arv Z h' b kA ty n vs' dv → own_Fin p e below K (T'.setTop (mkF m pc' Ls S))) : own_Fin p e below K (T.setTop (mkF m pc Ls (v :: .int j :: .ref b :: S))) := by
  obtain ⟨locs, X, N, e0, hn0⟩ := Y
  subst hpc hvs hi
  obtain ⟨cc, Ar, aq, aS, aN, aH, aG⟩ := A
  have hin := inb_of (c := cc) aS hj
  obtain ⟨T', h', X', e', W, st⟩ := stR X hx hZ e0 Ar (j := j) hin hty (hsto cc Ar aq) (g := mkF m pc Ls (v :: .int j :: .ref b :: S)) rfl rfl hd
  exact own_st st (k T' h' ⟨_, X', Fr.snoc X' N ha, e', by rw [W.size]; exact hn0⟩ (own_Kp.of_wr W) (Arv.set Ar aq aS aN aH aG hfit W _ rfl hil))
theorem own_aald (Y : own_S p l e R s m args below meth c n0 T h cl sl) (hx : p.tables.exec = Jvm.exec) (hZ : Z.Warmed39 s.vm) (A : Arv Z h b kA ty n vs dv) (hj : ¬ j < 0 ∧ j < n) (hty : ty.isReference = true) (hat : vs.getD j.toNatClampNeg dv = v)
    (hd : decode c.code pc = .ok (.aaload, 1)) (hpc : pc + 1 = pc') (k : own_Fin p e below K (T.setTop (mkF m pc' Ls (v :: S)))) : own_Fin p e below K (T.setTop (mkF m pc Ls (.int j :: .ref b :: S))) := by
  obtain ⟨locs, X, N, e0, hn0⟩ := Y
  subst hpc
  obtain ⟨cc, Ar, aq, aS, aN, aH, aG⟩ := A
  have hin := inb_of (c := cc) aS hj
  exact own_st (fun t k => X.aaload hx (j := j) (v := v) (by rw [e0]; exact Ar.1) (State.isArrayOf_alike hZ.alike Ar.2.1) hty Ar.2.2 hin (aH.at hin hat) (g := mkF m pc Ls (.int j :: .ref b :: S)) rfl rfl hd t k) k
theorem own_aaldC (Y : own_S p l e R s m args below meth c n0 T h cl sl) (hx : p.tables.exec = Jvm.exec) {cc : Cell} (hZ : Z.Warmed39 s.vm) (Ar : Arr Z h b cc ty) (hin : ¬ (j < 0 ∨ cc.slots.size ≤ j.toNatClampNeg)) (hat : cc.slots[j.toNatClampNeg]? = some v) (hty : ty.isReference = true)
    (hd : decode c.code pc = .ok (.aaload, 1)) (hpc : pc + 1 = pc') (k : own_Fin p e below K (T.setTop (mkF m pc' Ls (v :: S)))) : own_Fin p e below K (T.setTop (mkF m pc Ls (.int j :: .ref b :: S))) := by
  obtain ⟨locs, X, N, e0, hn0⟩ := Y
  subst hpc
  exact own_st (fun t k => X.aaload hx (j := j) (v := v) (by rw [e0]; exact Ar.1) (State.isArrayOf_alike hZ.alike Ar.2.1) hty Ar.2.2 hin hat (g := mkF m pc Ls (.int j :: .ref b :: S)) rfl rfl hd t k) k
end WalkB
def own_KL (s : State) (n0 : Nat) (o : Outcome) (U' : State) : Prop := ∃ v L, o = .returned v ∧ own_QQ n0 (own_R (some (.int (1 : Int32))) (fun _ => True)) v U'.heap L ∧ FrameEnd s o U' L room_1.cells room_1.slots
theorem own_foldl {f : Nat → Option Bool} : ∀ (L : List Nat) (x : Option Bool), L.foldl (fun acc i => match acc with | some true => f i | y => y) x = some true → x = some true ∧ ∀ i ∈ L, f i = some true
  | [], x, h => ⟨h, fun _ q => nomatch q⟩
  | a :: L, x, h => by
    rw [List.foldl_cons] at h
    obtain ⟨h1, h2⟩ := own_foldl L _ h
    match x, h1 with
    | some true, h1 => exact ⟨rfl, fun i hi => (List.mem_cons.mp hi).elim (fun e => e ▸ h1) (h2 i)⟩
    | some false, h1 => cases h1
    | none, h1 => cases h1
theorem own_allv {args : Array Value} {s : State} {t : Term} {c : Jvm.Cond} {w : Addr} {cl : Cell} (ev : t.eval args s none [] s = some (.ref w)) (hat : s.arrayAt? w = some cl) (h : (Jvm.Cond.all t c).value args s none s [] = some true) : ∀ i, i < cl.slots.size → c.value args s none s [i] = some true := by
  simp only [Cond.value, ev, hat] at h
  exact fun i hi => (own_foldl _ _ h).2 i (List.mem_range.mpr hi)
theorem own_subT {args : Array Value} {s : State} {idx : List Nat} {a b : Term} {x y : Int32} (ha : a.eval args s none idx s = some (.int x)) (hb : b.eval args s none idx s = some (.int y)) : (Term.sub a b).eval args s none idx s = some (.int (x - y)) := by
  simp [Term.eval, ha, hb]
theorem own_eqT {args : Array Value} {s : State} {idx : List Nat} {a b : Term} {k : Int32} (hb : b.eval args s none idx s = some (.int k)) (h : (Jvm.Cond.eq a b).value args s none s idx = some true) : a.eval args s none idx s = some (.int k) := by
  cases ha : a.eval args s none idx s with
  | none => simp [Cond.value, ha] at h
  | some x => cases x <;> simp [Cond.value, ha, hb] at h ⊢; exact h
theorem own_cache {args : Array Value} {s : State} {w : Addr} (ev : (Term.static "java/lang/Integer$IntegerCache" "cache" "[Ljava/lang/Integer;").eval args s none [] s = some (.ref w))
    (h4 : (Jvm.Cond.arrayOf (.static "java/lang/Integer$IntegerCache" "cache" "[Ljava/lang/Integer;") (.object "java/lang/Integer")).value args s none s [] = some true) (h6 : (Jvm.Cond.eq (.length (.static "java/lang/Integer$IntegerCache" "cache" "[Ljava/lang/Integer;")) (.int 256)).value args s none s [] = some true)
    (h7 : (Jvm.Cond.all (.static "java/lang/Integer$IntegerCache" "cache" "[Ljava/lang/Integer;") (.and (.exactly (.elem (.static "java/lang/Integer$IntegerCache" "cache" "[Ljava/lang/Integer;") (.index 0)) "java/lang/Integer") (.eq (.field (.elem (.static "java/lang/Integer$IntegerCache" "cache" "[Ljava/lang/Integer;") (.index 0)) "java/lang/Integer" "value" "I") (.sub (.index 0) (.int 128))))).value args s none s [] = some true) : own_Cache s s.heap w := by
  obtain ⟨cl, A⟩ := Arr.start ev h4
  have hat : s.arrayAt? w = some cl := A.fin (Vm.Alike.refl _)
  have hlen := own_eqI h6
  have hsz : cl.slots.size = 256 := by
    obtain ⟨q1, q2⟩ := IntBox.length_fwd (Cond.before_iff.mpr h6) ev A.1 A.2.1 A.2.2
    have q3 := congrArg Int32.toInt q2
    rw [len_toInt q1] at q3
    have q4 : (256 : Int32).toInt = 256 := by decide
    omega
  have hev : ∀ idx, (Term.static "java/lang/Integer$IntegerCache" "cache" "[Ljava/lang/Integer;").eval args s none idx s = some (.ref w) := fun idx => ev
  have hall := own_allv ev hat h7
  refine ⟨cl, A, fun x p q => ?_⟩
  obtain ⟨k1, k2⟩ := IntBox.place_ok x p q
  obtain ⟨c1, c2⟩ := and_e (hall _ (by rw [hsz]; exact k2))
  obtain ⟨a, ea⟩ := exa_v c1
  have E := exa_at ea c1
  have hidx : (Term.index 0).eval args s none [(x + 128).toNatClampNeg] s = some (.int (x + 128)) := idx_at (fun z => k1 (Or.inl z))
  have hel := elem_in ea (hev _) hidx A.1
  refine ⟨a, by rw [hsz]; exact k1, hel.2, E, Fld.start ?_⟩
  have hsub : (Term.sub (.index 0) (.int 128)).eval args s none [(x + 128).toNatClampNeg] s = some (.int x) := by
    have e : x + 128 - 128 = x := by
      apply Int32.toInt_inj.mp
      have h1 := c_isub (x + 128) 128
      have h2 := c_iadd x 128
      have h3 := rng32 (x + 128 - 128)
      have h4 := rng32 x
      omega
    have q5 := own_subT (args := args) (s := s) (b := .int 128) (y := 128) hidx rfl
    rw [e] at q5
    exact q5
  rw [← fld_at ea]
  exact own_eqT hsub c2
abbrev zs0 : String := "com/example/napkintree/napkintree/balancing/MultiwayTree$Node"
abbrev zs1 : String := "Ljava/lang/Object;"
abbrev zs2 : String := "java/lang/Object"
abbrev zs3 : String := "java/lang/Integer$IntegerCache"
abbrev zs4 : String := "(Ljava/lang/Object;)Ljava/lang/Object;"
abbrev zs5 : String := "(ILjava/lang/Object;Ljava/lang/Object;)V"
abbrev zs6 : String := "(I)Ljava/lang/Object;"
abbrev zs7 : String := "com/example/napkintree/napkintree/balancing/NodeRemoveEntryPinLaw"
abbrev zs8 : String := "(Ljava/lang/Integer;Ljava/lang/Integer;)Z"
abbrev zs9 : String := "java/lang/Integer"
def own_Pins (Z : State) (h0 : Heap) (w_NULL_KEY : Addr) (w_cache : Addr) : Prop := (Sta Z h0 zs0 "NULL_KEY" zs1 (.ref w_NULL_KEY)) ∧ (Exa Z h0 w_NULL_KEY zs2) ∧ (Sta Z h0 zs3 "high" "I" (.int 127)) ∧ (Sta Z h0 zs3 "cache" "[Ljava/lang/Integer;" (.ref w_cache)) ∧ (own_Cache Z h0 w_cache)
theorem own_mod3 (p : Int32) : (p &&& (2147483647 : Int32)) % (3 : Int32) = (0 : Int32) ∨ (p &&& (2147483647 : Int32)) % (3 : Int32) = (1 : Int32) ∨ (p &&& (2147483647 : Int32)) % (3 : Int32) = (2 : Int32) := by
  have h1 := c_and p (2147483647 : Int32) (by decide)
  have h2 := (c_irem (p &&& (2147483647 : Int32)) (3 : Int32) 3 rfl).1 h1.1
  generalize (p &&& (2147483647 : Int32)) % (3 : Int32) = r at h2 ⊢
  rcases (by omega : r.toInt = 0 ∨ r.toInt = 1 ∨ r.toInt = 2) with h | h | h
  · exact Or.inl (own_pick h)
  · exact Or.inr (Or.inl (own_pick h))
  · exact Or.inr (Or.inr ((own_pick h)))
theorem own_mod2 (p : Int32) : (p &&& (2147483647 : Int32)) % (2 : Int32) = (0 : Int32) ∨ (p &&& (2147483647 : Int32)) % (2 : Int32) = (1 : Int32) := by
  have h1 := c_and p (2147483647 : Int32) (by decide)
  have h2 := (c_irem (p &&& (2147483647 : Int32)) (2 : Int32) 2 rfl).1 h1.1
  generalize (p &&& (2147483647 : Int32)) % (2 : Int32) = r at h2 ⊢
  rcases (by omega : r.toInt = 0 ∨ r.toInt = 1) with h | h
  · exact Or.inl (own_pick h)
  · exact Or.inr ((own_pick h))
theorem own_mod1 (p : Int32) : (p &&& (2147483647 : Int32)) % (1 : Int32) = (0 : Int32) := by
  have h1 := c_and p (2147483647 : Int32) (by decide)
  have h2 := (c_irem (p &&& (2147483647 : Int32)) (1 : Int32) 1 rfl).1 h1.1
  generalize (p &&& (2147483647 : Int32)) % (1 : Int32) = r at h2 ⊢
  rcases (by omega : r.toInt = 0) with h
  · exact (own_pick h)
theorem d2_0 : decode prog_25_method_1_code 0 = .ok (.aload_n 0, 1) := by decide +kernel
theorem d2_1 : decode prog_25_method_1_code 1 = .ok (.invokespecial 1, 3) := by decide +kernel
theorem d2_4 : decode prog_25_method_1_code 4 = .ok (.return_, 1) := by decide +kernel
theorem ef_2_R (m : MethodId) (x0 : Addr) : entryFrame m #[(.ref x0)] 1 = mkF m 0 #[.val (.ref x0)] [] := by first | (simp [entryFrame, mkF, argsToLocals, Value.category]; done) | rfl
theorem pn_com_example_napkintree_napkintree_balancing_MultiwayTree_Node : plainName "com/example/napkintree/napkintree/balancing/MultiwayTree$Node" = true := by first | (simp [plainName, overriddenIn]; done) | decide +kernel
set_option maxRecDepth 65536 in
set_option maxHeartbeats 40000000 in
theorem rm2_1 (l : Launch) (Z : State) (a0 : Array Value) (hw : ∀ d ∈ tables_1, d.before a0 Z = true) (ws : List Jvm.Cond) (a1 : Addr) (h0 : Heap) (n0 : Nat) (Z0 : n0 ≤ Array.size h0) :
    MetFree l (⟨zs0, "<init>", "()V"⟩ : MethodName) (head1 (Jvm.Cond.code (⟨zs0, "<init>", "()V"⟩ : MethodName) prog_25_method_1_code 1 none :: ws) ({ frames := 1, cells := 0, slots := 0, locals := 12 } : Room)) (fun a U => a = #[(.ref a1)] ∧ Z.Warmed39 U.vm ∧ U.heap = h0) (fun _ _ _ _ _ => True) (fun _ U o U' => ∃ v L, o = .returned v ∧ own_QQ n0 (own_Same none h0) v U'.heap L ∧ FrameEnd U o U' L ({ frames := 1, cells := 0, slots := 0, locals := 12 } : Room).cells ({ frames := 1, cells := 0, slots := 0, locals := 12 } : Room).slots) := by
  refine MetFree.of_bodySF (plainFor_of_name pn_com_example_napkintree_napkintree_balancing_MultiwayTree_Node) hisR ?_
  intro p e s m args below meth c s₁ Bd hml0 hP hK
  obtain ⟨rfl, hZ, hh⟩ := hP
  have hx := Bd.exec
  have hby := Bd.bytes
  have hml : c.maxLocals = 1 := hml0
  have hown : s.vm.findClass zs0 = some m.cls := findClass_of_methodNamed Bd.named
  have hnm := (name_of_methodNamed Bd.named Bd.method).1
  have hlk : meth.locks = false := BodyLoose.notSynchronized Bd
  have Y0 : own_S p l e ({ frames := 1, cells := 0, slots := 0, locals := 12 } : Room) s m #[(.ref a1)] below meth c n0 s₁ h0 0 0 := ⟨[], Stand.of_body Bd, Fr.nil n0, by rw [← hh, Bd.state]; rfl, Z0⟩
  refine (?_ : own_Fin p e below _ _)
  refine own_st (fun t k => castTop (ef_2_R m a1) k) ?_
  refine own_aloadN Y0 hx (pc' := 1) (hb hby d2_0) rfl rfl rfl ?_
  refine own_initO Y0 hx (pc' := 4) (W := 0) hZ hown (own_w hw 17 rfl) (own_w hw 18 rfl) (own_w hw 19 rfl) (hb hby d2_1) rfl (by rw [hml]; rfl) (by decide) rfl (by decide) (fun T1 Y1 => ?_)
  exact own_ret0 Y1 hx hlk Bd.returns (hb hby d2_4) ⟨rfl, rfl⟩ (by decide) (by decide)
theorem pd___V : parseMethodDescriptor "()V" = some ⟨[], none⟩ := by decide +kernel
theorem d4_0 : decode prog_25_method_8_code 0 = .ok (.aload_n 2, 1) := by decide +kernel
theorem d4_1 : decode prog_25_method_8_code 1 = .ok (.invokestatic 28, 3) := by decide +kernel
theorem d5_0 : decode prog_25_method_18_code 0 = .ok (.aload_n 0, 1) := by decide +kernel
theorem d5_1 : decode prog_25_method_18_code 1 = .ok (.ifnonnull 9, 3) := by decide +kernel
theorem d5_4 : decode prog_25_method_18_code 4 = .ok (.getstatic 94, 3) := by decide +kernel
theorem d5_7 : decode prog_25_method_18_code 7 = .ok (.goto 4, 3) := by decide +kernel
theorem d5_11 : decode prog_25_method_18_code 11 = .ok (.areturn, 1) := by decide +kernel
theorem d5_10 : decode prog_25_method_18_code 10 = .ok (.aload_n 0, 1) := by decide +kernel
theorem ef_5_V (m : MethodId) (x0 : Value) (h0 : x0.isRef = true) : entryFrame m #[x0] 1 = mkF m 0 #[.val x0] [] := by
  rcases ref_cases h0 with rfl | ⟨a, rfl⟩
  all_goals rfl
set_option maxRecDepth 65536 in
set_option maxHeartbeats 40000000 in
theorem rm5_2 (l : Launch) (Z : State) (a0 : Array Value) (hw : ∀ d ∈ tables_1, d.before a0 Z = true) (ws : List Jvm.Cond) (v1 : Value) (a2 : Addr) (h0 : Heap) (n0 : Nat) (Z0 : n0 ≤ Array.size h0) (P0 : own_Box Z h0 v1) (P1 : Sta Z h0 zs0 "NULL_KEY" zs1 (.ref a2)) (P2 : Exa Z h0 a2 zs2) :
    MetFree l (⟨zs0, "slotFor", zs4⟩ : MethodName) (head1 (Jvm.Cond.code (⟨zs0, "slotFor", zs4⟩ : MethodName) prog_25_method_18_code 1 (some (.object zs2)) :: ws) ({ frames := 0, cells := 0, slots := 0, locals := 0 } : Room)) (fun a U => a = #[v1] ∧ Z.Warmed39 U.vm ∧ U.heap = h0) (fun _ _ _ _ _ => True) (fun _ U o U' => ∃ v L, o = .returned v ∧ own_QQ n0 (own_Same (some (.ref (own_sa a2 v1))) h0) v U'.heap L ∧ FrameEnd U o U' L ({ frames := 0, cells := 0, slots := 0, locals := 0 } : Room).cells ({ frames := 0, cells := 0, slots := 0, locals := 0 } : Room).slots) := by
  refine MetFree.of_bodySF (plainFor_of_name pn_com_example_napkintree_napkintree_balancing_MultiwayTree_Node) hisR ?_
  intro p e s m args below meth c s₁ Bd hml0 hP hK
  obtain ⟨rfl, hZ, hh⟩ := hP
  have hx := Bd.exec
  have hby := Bd.bytes
  have hml : c.maxLocals = 1 := hml0
  have hown : s.vm.findClass zs0 = some m.cls := findClass_of_methodNamed Bd.named
  have hnm := (name_of_methodNamed Bd.named Bd.method).1
  have hlk : meth.locks = false := BodyLoose.notSynchronized Bd
  have Y0 : own_S p l e ({ frames := 0, cells := 0, slots := 0, locals := 0 } : Room) s m #[v1] below meth c n0 s₁ h0 0 0 := ⟨[], Stand.of_body Bd, Fr.nil n0, by rw [← hh, Bd.state]; rfl, Z0⟩
  refine (?_ : own_Fin p e below _ _)
  refine own_st (fun t k => castTop (ef_5_V m v1 (own_BoxRef P0)) k) ?_
  refine own_aloadN Y0 hx (pc' := 1) (hb hby d5_0) rfl rfl (own_BoxRef P0) ?_
  rcases P0 with hv1 | ⟨a_1, x_1, hv1, E_1, F_1⟩
  ·
    subst hv1
    refine own_ifnonnullNo Y0 hx (pc' := 4) (hb hby d5_1) rfl ?_
    refine own_getS Y0 hx (pc' := 7) (v := (.ref a2)) hZ hown (host := "") (Or.inl (own_w hw 28 rfl)) Via.refl P1 (hb hby d5_4) rfl (fun T2 Y2 => ?_)
    refine own_goto Y2 hx (pc' := 11) (hb hby d5_7) (by decide) (by decide) ?_
    exact own_retA Y2 hx hlk Bd.returns rfl rfl rfl (hb hby d5_11) ⟨rfl, rfl⟩ (by decide) (by decide)
  ·
    subst hv1
    refine own_ifnonnullYes Y0 hx (pc' := 10) (hb hby d5_1) (by decide) (by decide) ?_
    refine own_aloadN Y0 hx (pc' := 11) (hb hby d5_10) rfl rfl rfl ?_
    exact own_retA Y0 hx hlk Bd.returns rfl rfl rfl (hb hby d5_11) ⟨rfl, rfl⟩ (by decide) (by decide)
theorem pd__Ljava_lang_Object__Ljava_lang_Object_ : parseMethodDescriptor "(Ljava/lang/Object;)Ljava/lang/Object;" = some ⟨[(.object "java/lang/Object")], some (.object "java/lang/Object")⟩ := by decide +kernel
theorem d4_4 : decode prog_25_method_8_code 4 = .ok (.astore 4, 2) := by decide +kernel
theorem d4_6 : decode prog_25_method_8_code 6 = .ok (.iload_n 1, 1) := by decide +kernel
theorem d4_7 : decode prog_25_method_8_code 7 = .ok (.tableswitch 67 0 2 #[25, 39, 53], 25) := by decide +kernel
theorem d4_32 : decode prog_25_method_8_code 32 = .ok (.aload_n 0, 1) := by decide +kernel
theorem d4_33 : decode prog_25_method_8_code 33 = .ok (.aload 4, 2) := by decide +kernel
theorem d4_35 : decode prog_25_method_8_code 35 = .ok (.putfield 45, 3) := by decide +kernel
theorem d4_38 : decode prog_25_method_8_code 38 = .ok (.aload_n 0, 1) := by decide +kernel
theorem d4_39 : decode prog_25_method_8_code 39 = .ok (.aload_n 3, 1) := by decide +kernel
theorem d4_40 : decode prog_25_method_8_code 40 = .ok (.putfield 48, 3) := by decide +kernel
theorem sl_0 {Z : State} {a0 : Array Value} (hw : ∀ d ∈ tables_1, d.before a0 Z = true) : Jvm.RoadKit.slotOf Z zs0 "value0" zs1 ≠ Jvm.RoadKit.slotOf Z zs0 "key0" zs1 := slot_ne (C := zs0) (Or.inl (own_w hw 33 rfl)) (Or.inl (own_w hw 31 rfl)) (by decide) (t := (.object zs2)) (t' := (.object zs2)) (by decide) (by decide)
theorem d4_43 : decode prog_25_method_8_code 43 = .ok (.goto 40, 3) := by decide +kernel
theorem d4_83 : decode prog_25_method_8_code 83 = .ok (.return_, 1) := by decide +kernel
theorem sl_1 {Z : State} {a0 : Array Value} (hw : ∀ d ∈ tables_1, d.before a0 Z = true) : Jvm.RoadKit.slotOf Z zs0 "key0" zs1 ≠ Jvm.RoadKit.slotOf Z zs0 "value0" zs1 := slot_ne (C := zs0) (Or.inl (own_w hw 31 rfl)) (Or.inl (own_w hw 33 rfl)) (by decide) (t := (.object zs2)) (t' := (.object zs2)) (by decide) (by decide)
theorem ef_4_RIVV (m : MethodId) (x0 : Addr) (x1 : Int32) (x2 : Value) (h2 : x2.isRef = true) (x3 : Value) (h3 : x3.isRef = true) : entryFrame m #[(.ref x0), (.int x1), x2, x3] 5 = mkF m 0 #[.val (.ref x0), .val (.int x1), .val x2, .val x3, .unset] [] := by
  rcases ref_cases h2 with rfl | ⟨a, rfl⟩ <;> rcases ref_cases h3 with rfl | ⟨a, rfl⟩
  all_goals rfl
def P4_3 (Z : State) (a1 : Addr) (v2 : Value) (v3 : Value) (a4 : Addr) (h0 : Heap) (h : Heap) : Prop := own_Kp h0 h [(a1, Jvm.RoadKit.slotOf Z zs0 "key0" zs1), (a1, Jvm.RoadKit.slotOf Z zs0 "value0" zs1)] ∧ Fld Z h a1 zs0 "key0" zs1 (.ref (own_sa a4 v2)) ∧ Fld Z h a1 zs0 "value0" zs1 v3
theorem P4_3_sz {Z : State} {a1 : Addr} {v2 : Value} {v3 : Value} {a4 : Addr} {h0 : Heap} : ∀ v h', (own_R none (P4_3 Z a1 v2 v3 a4 h0)) v h' → Array.size h0 ≤ Array.size h' := by
  intro v h' q
  obtain ⟨-, K, -⟩ := q
  exact K.1
set_option maxRecDepth 65536 in
set_option maxHeartbeats 40000000 in
theorem rm4_3 (l : Launch) (Z : State) (a0 : Array Value) (hw : ∀ d ∈ tables_1, d.before a0 Z = true) (ws : List Jvm.Cond) (a1 : Addr) (v2 : Value) (v3 : Value) (a4 : Addr) (h0 : Heap) (n0 : Nat) (Z0 : n0 ≤ Array.size h0) (P0 : own_Box Z h0 v2) (P1 : own_Box Z h0 v3) (P2 : Sta Z h0 zs0 "NULL_KEY" zs1 (.ref a4)) (P3 : Exa Z h0 a4 zs2) (P4 : Fld Z h0 a1 zs0 "key0" zs1 .null) (P5 : Exa Z h0 a1 zs0) (P6 : n0 ≤ a1) (P7 : Fld Z h0 a1 zs0 "value0" zs1 .null) :
    MetFree l (⟨zs0, "setEntry", zs5⟩ : MethodName) (head1 (Jvm.Cond.code (⟨zs0, "setEntry", zs5⟩ : MethodName) prog_25_method_8_code 5 none :: ws) ({ frames := 1, cells := 0, slots := 0, locals := 12 } : Room)) (fun a U => a = #[(.ref a1), (.int (0 : Int32)), v2, v3] ∧ Z.Warmed39 U.vm ∧ U.heap = h0) (fun _ _ _ _ _ => True) (fun _ U o U' => ∃ v L, o = .returned v ∧ own_QQ n0 (own_R none (P4_3 Z a1 v2 v3 a4 h0)) v U'.heap L ∧ FrameEnd U o U' L ({ frames := 1, cells := 0, slots := 0, locals := 12 } : Room).cells ({ frames := 1, cells := 0, slots := 0, locals := 12 } : Room).slots) := by
  refine MetFree.of_bodySF (plainFor_of_name pn_com_example_napkintree_napkintree_balancing_MultiwayTree_Node) hisR ?_
  intro p e s m args below meth c s₁ Bd hml0 hP hK
  obtain ⟨rfl, hZ, hh⟩ := hP
  have hx := Bd.exec
  have hby := Bd.bytes
  have hml : c.maxLocals = 5 := hml0
  have hown : s.vm.findClass zs0 = some m.cls := findClass_of_methodNamed Bd.named
  have hnm := (name_of_methodNamed Bd.named Bd.method).1
  have hlk : meth.locks = false := BodyLoose.notSynchronized Bd
  have Y0 : own_S p l e ({ frames := 1, cells := 0, slots := 0, locals := 12 } : Room) s m #[(.ref a1), (.int (0 : Int32)), v2, v3] below meth c n0 s₁ h0 0 0 := ⟨[], Stand.of_body Bd, Fr.nil n0, by rw [← hh, Bd.state]; rfl, Z0⟩
  refine (?_ : own_Fin p e below _ _)
  refine own_st (fun t k => castTop (ef_4_RIVV m a1 (0 : Int32) v2 (own_BoxRef P0) v3 (own_BoxRef P1)) k) ?_
  refine own_aloadN Y0 hx (pc' := 1) (hb hby d4_0) rfl rfl (own_BoxRef P0) ?_
  refine own_static Y0 hx (pc' := 4) (W := 0) (cl' := 0) (sl' := 0) (as' := [v2]) (S' := []) hZ hown (own_w hw 25 rfl) (own_w hw 26 rfl) (own_w hw 13 rfl) (own_w hw 27 rfl) (by decide) (rm5_2 l Z a0 hw [] v2 a4 h0 n0 (own_sz Y0) P0 P2 P3) (hb hby d4_1) rfl (by rw [hml]; rfl) rfl (lenOf pd__Ljava_lang_Object__Ljava_lang_Object_ rfl) rfl (by decide) (by decide) rfl rfl (by decide) (by decide) own_Same.sz (own_fixS (S2 := [(.ref (own_sa a4 v2))]) rfl (fun T1 Y1 => ?_))
  refine own_astore Y1 hx (pc' := 6) (Ls' := #[.val (.ref a1), .val (.int (0 : Int32)), .val v2, .val v3, .val (.ref (own_sa a4 v2))]) (hb hby d4_4) rfl rfl rfl ?_
  refine own_iloadN Y1 hx (pc' := 7) (hb hby d4_6) rfl rfl ?_
  refine own_tswIn Y1 hx (pc' := 32) (o := 25) (hb hby d4_7) (by decide) (by decide) (by decide) (by decide) ?_
  refine own_aloadN Y1 hx (pc' := 33) (hb hby d4_32) rfl rfl rfl ?_
  refine own_aload Y1 hx (pc' := 35) (hb hby d4_33) rfl rfl rfl ?_
  refine own_putF Y1 hx (pc' := 38) hZ hown (host := "") (Or.inl (own_w hw 30 rfl)) Via.refl P4 P5 (Or.inl (own_w hw 31 rfl)) (own_w hw 12 rfl) (ty := (.object zs2)) (by decide) rfl rfl P6 (hb hby d4_35) rfl (fun T2 h2 Y2 K2 F2 => ?_)
  refine own_aloadN Y2 hx (pc' := 39) (hb hby d4_38) rfl rfl rfl ?_
  refine own_aloadN Y2 hx (pc' := 40) (hb hby d4_39) rfl rfl (own_BoxRef P1) ?_
  have F3 := (own_F (v := .null) P7 K2 (own_nr (sl_0 hw) own_nin0))
  have F4 := (own_E P5 K2)
  refine own_putF Y2 hx (pc' := 43) hZ hown (host := "") (Or.inl (own_w hw 32 rfl)) Via.refl F3 F4 (Or.inl (own_w hw 33 rfl)) (own_w hw 12 rfl) (ty := (.object zs2)) (by decide) (own_narR rfl (own_BoxRef P1)) (own_fitR rfl (own_BoxRef P1)) P6 (hb hby d4_40) rfl (fun T5 h5 Y5 K5 F5 => ?_)
  refine own_goto Y5 hx (pc' := 83) (hb hby d4_43) (by decide) (by decide) ?_
  have KC6 : own_Kp h0 h5 [(a1, Jvm.RoadKit.slotOf Z zs0 "key0" zs1), (a1, Jvm.RoadKit.slotOf Z zs0 "value0" zs1)] := (((own_Kp.refl h0 [(a1, Jvm.RoadKit.slotOf Z zs0 "key0" zs1), (a1, Jvm.RoadKit.slotOf Z zs0 "value0" zs1)]).trans K2 (own_allS (Or.inl (List.mem_of_getElem? (i := 0) rfl)) own_all0)).trans K5 (own_allS (Or.inl (List.mem_of_getElem? (i := 1) rfl)) own_all0))
  have F7 := (own_F (v := (.ref (own_sa a4 v2))) F2 K5 (own_nr (sl_1 hw) own_nin0))
  exact own_ret0 Y5 hx hlk Bd.returns (hb hby d4_83) ⟨rfl, KC6, F7, F5⟩ (by decide) (by decide)
theorem pd__ILjava_lang_Object_Ljava_lang_Object__V : parseMethodDescriptor "(ILjava/lang/Object;Ljava/lang/Object;)V" = some ⟨[.int, (.object "java/lang/Object"), (.object "java/lang/Object")], none⟩ := by decide +kernel
theorem d6_0 : decode prog_25_method_5_code 0 = .ok (.iload_n 1, 1) := by decide +kernel
theorem d6_1 : decode prog_25_method_5_code 1 = .ok (.ifCond .ne 19, 3) := by decide +kernel
theorem d6_4 : decode prog_25_method_5_code 4 = .ok (.aload_n 0, 1) := by decide +kernel
theorem d6_5 : decode prog_25_method_5_code 5 = .ok (.aload_n 0, 1) := by decide +kernel
theorem d6_6 : decode prog_25_method_5_code 6 = .ok (.getfield 39, 3) := by decide +kernel
theorem sl_2 {Z : State} {a0 : Array Value} (hw : ∀ d ∈ tables_1, d.before a0 Z = true) : Jvm.RoadKit.slotOf Z zs0 "key1" zs1 ≠ Jvm.RoadKit.slotOf Z zs0 "key0" zs1 := slot_ne (C := zs0) (Or.inl (own_w hw 35 rfl)) (Or.inl (own_w hw 31 rfl)) (by decide) (t := (.object zs2)) (t' := (.object zs2)) (by decide) (by decide)
theorem sl_3 {Z : State} {a0 : Array Value} (hw : ∀ d ∈ tables_1, d.before a0 Z = true) : Jvm.RoadKit.slotOf Z zs0 "key1" zs1 ≠ Jvm.RoadKit.slotOf Z zs0 "value0" zs1 := slot_ne (C := zs0) (Or.inl (own_w hw 35 rfl)) (Or.inl (own_w hw 33 rfl)) (by decide) (t := (.object zs2)) (t' := (.object zs2)) (by decide) (by decide)
theorem d6_9 : decode prog_25_method_5_code 9 = .ok (.putfield 45, 3) := by decide +kernel
theorem d6_12 : decode prog_25_method_5_code 12 = .ok (.aload_n 0, 1) := by decide +kernel
theorem d6_13 : decode prog_25_method_5_code 13 = .ok (.aload_n 0, 1) := by decide +kernel
theorem d6_14 : decode prog_25_method_5_code 14 = .ok (.getfield 42, 3) := by decide +kernel
theorem sl_4 {Z : State} {a0 : Array Value} (hw : ∀ d ∈ tables_1, d.before a0 Z = true) : Jvm.RoadKit.slotOf Z zs0 "value1" zs1 ≠ Jvm.RoadKit.slotOf Z zs0 "key0" zs1 := slot_ne (C := zs0) (Or.inl (own_w hw 37 rfl)) (Or.inl (own_w hw 31 rfl)) (by decide) (t := (.object zs2)) (t' := (.object zs2)) (by decide) (by decide)
theorem sl_5 {Z : State} {a0 : Array Value} (hw : ∀ d ∈ tables_1, d.before a0 Z = true) : Jvm.RoadKit.slotOf Z zs0 "value1" zs1 ≠ Jvm.RoadKit.slotOf Z zs0 "value0" zs1 := slot_ne (C := zs0) (Or.inl (own_w hw 37 rfl)) (Or.inl (own_w hw 33 rfl)) (by decide) (t := (.object zs2)) (t' := (.object zs2)) (by decide) (by decide)
theorem d6_17 : decode prog_25_method_5_code 17 = .ok (.putfield 48, 3) := by decide +kernel
theorem d6_20 : decode prog_25_method_5_code 20 = .ok (.iload_n 1, 1) := by decide +kernel
theorem d6_21 : decode prog_25_method_5_code 21 = .ok (.iconst 1, 1) := by decide +kernel
theorem d6_22 : decode prog_25_method_5_code 22 = .ok (.if_icmp .gt 19, 3) := by decide +kernel
theorem d6_25 : decode prog_25_method_5_code 25 = .ok (.aload_n 0, 1) := by decide +kernel
theorem d6_26 : decode prog_25_method_5_code 26 = .ok (.aload_n 0, 1) := by decide +kernel
theorem d6_27 : decode prog_25_method_5_code 27 = .ok (.getfield 32, 3) := by decide +kernel
theorem sl_6 {Z : State} {a0 : Array Value} (hw : ∀ d ∈ tables_1, d.before a0 Z = true) : Jvm.RoadKit.slotOf Z zs0 "key2" zs1 ≠ Jvm.RoadKit.slotOf Z zs0 "key0" zs1 := slot_ne (C := zs0) (Or.inl (own_w hw 44 rfl)) (Or.inl (own_w hw 31 rfl)) (by decide) (t := (.object zs2)) (t' := (.object zs2)) (by decide) (by decide)
theorem sl_7 {Z : State} {a0 : Array Value} (hw : ∀ d ∈ tables_1, d.before a0 Z = true) : Jvm.RoadKit.slotOf Z zs0 "key2" zs1 ≠ Jvm.RoadKit.slotOf Z zs0 "value0" zs1 := slot_ne (C := zs0) (Or.inl (own_w hw 44 rfl)) (Or.inl (own_w hw 33 rfl)) (by decide) (t := (.object zs2)) (t' := (.object zs2)) (by decide) (by decide)
theorem d6_30 : decode prog_25_method_5_code 30 = .ok (.putfield 39, 3) := by decide +kernel
theorem d6_33 : decode prog_25_method_5_code 33 = .ok (.aload_n 0, 1) := by decide +kernel
theorem d6_34 : decode prog_25_method_5_code 34 = .ok (.aload_n 0, 1) := by decide +kernel
theorem d6_35 : decode prog_25_method_5_code 35 = .ok (.getfield 36, 3) := by decide +kernel
theorem sl_8 {Z : State} {a0 : Array Value} (hw : ∀ d ∈ tables_1, d.before a0 Z = true) : Jvm.RoadKit.slotOf Z zs0 "value2" zs1 ≠ Jvm.RoadKit.slotOf Z zs0 "key0" zs1 := slot_ne (C := zs0) (Or.inl (own_w hw 46 rfl)) (Or.inl (own_w hw 31 rfl)) (by decide) (t := (.object zs2)) (t' := (.object zs2)) (by decide) (by decide)
theorem sl_9 {Z : State} {a0 : Array Value} (hw : ∀ d ∈ tables_1, d.before a0 Z = true) : Jvm.RoadKit.slotOf Z zs0 "value2" zs1 ≠ Jvm.RoadKit.slotOf Z zs0 "value0" zs1 := slot_ne (C := zs0) (Or.inl (own_w hw 46 rfl)) (Or.inl (own_w hw 33 rfl)) (by decide) (t := (.object zs2)) (t' := (.object zs2)) (by decide) (by decide)
theorem sl_10 {Z : State} {a0 : Array Value} (hw : ∀ d ∈ tables_1, d.before a0 Z = true) : Jvm.RoadKit.slotOf Z zs0 "value2" zs1 ≠ Jvm.RoadKit.slotOf Z zs0 "key1" zs1 := slot_ne (C := zs0) (Or.inl (own_w hw 46 rfl)) (Or.inl (own_w hw 35 rfl)) (by decide) (t := (.object zs2)) (t' := (.object zs2)) (by decide) (by decide)
theorem d6_38 : decode prog_25_method_5_code 38 = .ok (.putfield 42, 3) := by decide +kernel
theorem sl_11 {Z : State} {a0 : Array Value} (hw : ∀ d ∈ tables_1, d.before a0 Z = true) : Jvm.RoadKit.slotOf Z zs0 "value1" zs1 ≠ Jvm.RoadKit.slotOf Z zs0 "key1" zs1 := slot_ne (C := zs0) (Or.inl (own_w hw 37 rfl)) (Or.inl (own_w hw 35 rfl)) (by decide) (t := (.object zs2)) (t' := (.object zs2)) (by decide) (by decide)
theorem d6_41 : decode prog_25_method_5_code 41 = .ok (.aload_n 0, 1) := by decide +kernel
theorem d6_42 : decode prog_25_method_5_code 42 = .ok (.aconst_null, 1) := by decide +kernel
theorem d6_43 : decode prog_25_method_5_code 43 = .ok (.putfield 32, 3) := by decide +kernel
theorem sl_12 {Z : State} {a0 : Array Value} (hw : ∀ d ∈ tables_1, d.before a0 Z = true) : Jvm.RoadKit.slotOf Z zs0 "key2" zs1 ≠ Jvm.RoadKit.slotOf Z zs0 "key1" zs1 := slot_ne (C := zs0) (Or.inl (own_w hw 44 rfl)) (Or.inl (own_w hw 35 rfl)) (by decide) (t := (.object zs2)) (t' := (.object zs2)) (by decide) (by decide)
theorem sl_13 {Z : State} {a0 : Array Value} (hw : ∀ d ∈ tables_1, d.before a0 Z = true) : Jvm.RoadKit.slotOf Z zs0 "key2" zs1 ≠ Jvm.RoadKit.slotOf Z zs0 "value1" zs1 := slot_ne (C := zs0) (Or.inl (own_w hw 44 rfl)) (Or.inl (own_w hw 37 rfl)) (by decide) (t := (.object zs2)) (t' := (.object zs2)) (by decide) (by decide)
theorem d6_46 : decode prog_25_method_5_code 46 = .ok (.aload_n 0, 1) := by decide +kernel
theorem d6_47 : decode prog_25_method_5_code 47 = .ok (.aconst_null, 1) := by decide +kernel
theorem d6_48 : decode prog_25_method_5_code 48 = .ok (.putfield 36, 3) := by decide +kernel
theorem sl_14 {Z : State} {a0 : Array Value} (hw : ∀ d ∈ tables_1, d.before a0 Z = true) : Jvm.RoadKit.slotOf Z zs0 "value2" zs1 ≠ Jvm.RoadKit.slotOf Z zs0 "value1" zs1 := slot_ne (C := zs0) (Or.inl (own_w hw 46 rfl)) (Or.inl (own_w hw 37 rfl)) (by decide) (t := (.object zs2)) (t' := (.object zs2)) (by decide) (by decide)
theorem sl_15 {Z : State} {a0 : Array Value} (hw : ∀ d ∈ tables_1, d.before a0 Z = true) : Jvm.RoadKit.slotOf Z zs0 "value2" zs1 ≠ Jvm.RoadKit.slotOf Z zs0 "key2" zs1 := slot_ne (C := zs0) (Or.inl (own_w hw 46 rfl)) (Or.inl (own_w hw 44 rfl)) (by decide) (t := (.object zs2)) (t' := (.object zs2)) (by decide) (by decide)
theorem d6_51 : decode prog_25_method_5_code 51 = .ok (.return_, 1) := by decide +kernel
theorem sl_16 {Z : State} {a0 : Array Value} (hw : ∀ d ∈ tables_1, d.before a0 Z = true) : Jvm.RoadKit.slotOf Z zs0 "key0" zs1 ≠ Jvm.RoadKit.slotOf Z zs0 "key1" zs1 := slot_ne (C := zs0) (Or.inl (own_w hw 31 rfl)) (Or.inl (own_w hw 35 rfl)) (by decide) (t := (.object zs2)) (t' := (.object zs2)) (by decide) (by decide)
theorem sl_17 {Z : State} {a0 : Array Value} (hw : ∀ d ∈ tables_1, d.before a0 Z = true) : Jvm.RoadKit.slotOf Z zs0 "key0" zs1 ≠ Jvm.RoadKit.slotOf Z zs0 "value1" zs1 := slot_ne (C := zs0) (Or.inl (own_w hw 31 rfl)) (Or.inl (own_w hw 37 rfl)) (by decide) (t := (.object zs2)) (t' := (.object zs2)) (by decide) (by decide)
theorem sl_18 {Z : State} {a0 : Array Value} (hw : ∀ d ∈ tables_1, d.before a0 Z = true) : Jvm.RoadKit.slotOf Z zs0 "key0" zs1 ≠ Jvm.RoadKit.slotOf Z zs0 "key2" zs1 := slot_ne (C := zs0) (Or.inl (own_w hw 31 rfl)) (Or.inl (own_w hw 44 rfl)) (by decide) (t := (.object zs2)) (t' := (.object zs2)) (by decide) (by decide)
theorem sl_19 {Z : State} {a0 : Array Value} (hw : ∀ d ∈ tables_1, d.before a0 Z = true) : Jvm.RoadKit.slotOf Z zs0 "key0" zs1 ≠ Jvm.RoadKit.slotOf Z zs0 "value2" zs1 := slot_ne (C := zs0) (Or.inl (own_w hw 31 rfl)) (Or.inl (own_w hw 46 rfl)) (by decide) (t := (.object zs2)) (t' := (.object zs2)) (by decide) (by decide)
theorem sl_20 {Z : State} {a0 : Array Value} (hw : ∀ d ∈ tables_1, d.before a0 Z = true) : Jvm.RoadKit.slotOf Z zs0 "value0" zs1 ≠ Jvm.RoadKit.slotOf Z zs0 "key1" zs1 := slot_ne (C := zs0) (Or.inl (own_w hw 33 rfl)) (Or.inl (own_w hw 35 rfl)) (by decide) (t := (.object zs2)) (t' := (.object zs2)) (by decide) (by decide)
theorem sl_21 {Z : State} {a0 : Array Value} (hw : ∀ d ∈ tables_1, d.before a0 Z = true) : Jvm.RoadKit.slotOf Z zs0 "value0" zs1 ≠ Jvm.RoadKit.slotOf Z zs0 "value1" zs1 := slot_ne (C := zs0) (Or.inl (own_w hw 33 rfl)) (Or.inl (own_w hw 37 rfl)) (by decide) (t := (.object zs2)) (t' := (.object zs2)) (by decide) (by decide)
theorem sl_22 {Z : State} {a0 : Array Value} (hw : ∀ d ∈ tables_1, d.before a0 Z = true) : Jvm.RoadKit.slotOf Z zs0 "value0" zs1 ≠ Jvm.RoadKit.slotOf Z zs0 "key2" zs1 := slot_ne (C := zs0) (Or.inl (own_w hw 33 rfl)) (Or.inl (own_w hw 44 rfl)) (by decide) (t := (.object zs2)) (t' := (.object zs2)) (by decide) (by decide)
theorem sl_23 {Z : State} {a0 : Array Value} (hw : ∀ d ∈ tables_1, d.before a0 Z = true) : Jvm.RoadKit.slotOf Z zs0 "value0" zs1 ≠ Jvm.RoadKit.slotOf Z zs0 "value2" zs1 := slot_ne (C := zs0) (Or.inl (own_w hw 33 rfl)) (Or.inl (own_w hw 46 rfl)) (by decide) (t := (.object zs2)) (t' := (.object zs2)) (by decide) (by decide)
theorem sl_24 {Z : State} {a0 : Array Value} (hw : ∀ d ∈ tables_1, d.before a0 Z = true) : Jvm.RoadKit.slotOf Z zs0 "key1" zs1 ≠ Jvm.RoadKit.slotOf Z zs0 "value1" zs1 := slot_ne (C := zs0) (Or.inl (own_w hw 35 rfl)) (Or.inl (own_w hw 37 rfl)) (by decide) (t := (.object zs2)) (t' := (.object zs2)) (by decide) (by decide)
theorem sl_25 {Z : State} {a0 : Array Value} (hw : ∀ d ∈ tables_1, d.before a0 Z = true) : Jvm.RoadKit.slotOf Z zs0 "key1" zs1 ≠ Jvm.RoadKit.slotOf Z zs0 "key2" zs1 := slot_ne (C := zs0) (Or.inl (own_w hw 35 rfl)) (Or.inl (own_w hw 44 rfl)) (by decide) (t := (.object zs2)) (t' := (.object zs2)) (by decide) (by decide)
theorem sl_26 {Z : State} {a0 : Array Value} (hw : ∀ d ∈ tables_1, d.before a0 Z = true) : Jvm.RoadKit.slotOf Z zs0 "key1" zs1 ≠ Jvm.RoadKit.slotOf Z zs0 "value2" zs1 := slot_ne (C := zs0) (Or.inl (own_w hw 35 rfl)) (Or.inl (own_w hw 46 rfl)) (by decide) (t := (.object zs2)) (t' := (.object zs2)) (by decide) (by decide)
theorem sl_27 {Z : State} {a0 : Array Value} (hw : ∀ d ∈ tables_1, d.before a0 Z = true) : Jvm.RoadKit.slotOf Z zs0 "value1" zs1 ≠ Jvm.RoadKit.slotOf Z zs0 "key2" zs1 := slot_ne (C := zs0) (Or.inl (own_w hw 37 rfl)) (Or.inl (own_w hw 44 rfl)) (by decide) (t := (.object zs2)) (t' := (.object zs2)) (by decide) (by decide)
theorem sl_28 {Z : State} {a0 : Array Value} (hw : ∀ d ∈ tables_1, d.before a0 Z = true) : Jvm.RoadKit.slotOf Z zs0 "value1" zs1 ≠ Jvm.RoadKit.slotOf Z zs0 "value2" zs1 := slot_ne (C := zs0) (Or.inl (own_w hw 37 rfl)) (Or.inl (own_w hw 46 rfl)) (by decide) (t := (.object zs2)) (t' := (.object zs2)) (by decide) (by decide)
theorem sl_29 {Z : State} {a0 : Array Value} (hw : ∀ d ∈ tables_1, d.before a0 Z = true) : Jvm.RoadKit.slotOf Z zs0 "key2" zs1 ≠ Jvm.RoadKit.slotOf Z zs0 "value2" zs1 := slot_ne (C := zs0) (Or.inl (own_w hw 44 rfl)) (Or.inl (own_w hw 46 rfl)) (by decide) (t := (.object zs2)) (t' := (.object zs2)) (by decide) (by decide)
theorem ef_6_RI (m : MethodId) (x0 : Addr) (x1 : Int32) : entryFrame m #[(.ref x0), (.int x1)] 2 = mkF m 0 #[.val (.ref x0), .val (.int x1)] [] := by first | (simp [entryFrame, mkF, argsToLocals, Value.category]; done) | rfl
def P6_4 (Z : State) (a1 : Addr) (a2 : Addr) (v3 : Value) (v4 : Value) (h0 : Heap) (h : Heap) : Prop := own_Kp h0 h [(a1, Jvm.RoadKit.slotOf Z zs0 "key0" zs1), (a1, Jvm.RoadKit.slotOf Z zs0 "value0" zs1), (a1, Jvm.RoadKit.slotOf Z zs0 "key1" zs1), (a1, Jvm.RoadKit.slotOf Z zs0 "value1" zs1), (a1, Jvm.RoadKit.slotOf Z zs0 "key2" zs1), (a1, Jvm.RoadKit.slotOf Z zs0 "value2" zs1)] ∧ Fld Z h a1 zs0 "key0" zs1 .null ∧ Fld Z h a1 zs0 "value0" zs1 .null ∧ Fld Z h a1 zs0 "key1" zs1 .null ∧ Fld Z h a1 zs0 "value1" zs1 .null ∧ Fld Z h a1 zs0 "key2" zs1 .null ∧ Fld Z h a1 zs0 "value2" zs1 .null
theorem P6_4_sz {Z : State} {a1 : Addr} {a2 : Addr} {v3 : Value} {v4 : Value} {h0 : Heap} : ∀ v h', (own_R none (P6_4 Z a1 a2 v3 v4 h0)) v h' → Array.size h0 ≤ Array.size h' := by
  intro v h' q
  obtain ⟨-, K, -⟩ := q
  exact K.1
set_option maxRecDepth 65536 in
set_option maxHeartbeats 40000000 in
theorem rm6_4 (l : Launch) (Z : State) (a0 : Array Value) (hw : ∀ d ∈ tables_1, d.before a0 Z = true) (ws : List Jvm.Cond) (a1 : Addr) (a2 : Addr) (v3 : Value) (v4 : Value) (h0 : Heap) (n0 : Nat) (Z0 : n0 ≤ Array.size h0) (P0 : Fld Z h0 a1 zs0 "key1" zs1 .null) (P1 : own_Box Z h0 v3) (P2 : Fld Z h0 a1 zs0 "key0" zs1 (.ref (own_sa a2 v3))) (P3 : Exa Z h0 a1 zs0) (P4 : n0 ≤ a1) (P5 : Fld Z h0 a1 zs0 "value1" zs1 .null) (P6 : own_Box Z h0 v4) (P7 : Fld Z h0 a1 zs0 "value0" zs1 v4) (P8 : Fld Z h0 a1 zs0 "key2" zs1 .null) (P9 : Fld Z h0 a1 zs0 "value2" zs1 .null) :
    MetFree l (⟨zs0, "removeEntry", "(I)V"⟩ : MethodName) (head1 (Jvm.Cond.code (⟨zs0, "removeEntry", "(I)V"⟩ : MethodName) prog_25_method_5_code 2 none :: ws) ({ frames := 0, cells := 0, slots := 0, locals := 0 } : Room)) (fun a U => a = #[(.ref a1), (.int (0 : Int32))] ∧ Z.Warmed39 U.vm ∧ U.heap = h0) (fun _ _ _ _ _ => True) (fun _ U o U' => ∃ v L, o = .returned v ∧ own_QQ n0 (own_R none (P6_4 Z a1 a2 v3 v4 h0)) v U'.heap L ∧ FrameEnd U o U' L ({ frames := 0, cells := 0, slots := 0, locals := 0 } : Room).cells ({ frames := 0, cells := 0, slots := 0, locals := 0 } : Room).slots) := by
  refine MetFree.of_bodySF (plainFor_of_name pn_com_example_napkintree_napkintree_balancing_MultiwayTree_Node) hisR ?_
  intro p e s m args below meth c s₁ Bd hml0 hP hK
  obtain ⟨rfl, hZ, hh⟩ := hP
  have hx := Bd.exec
  have hby := Bd.bytes
  have hml : c.maxLocals = 2 := hml0
  have hown : s.vm.findClass zs0 = some m.cls := findClass_of_methodNamed Bd.named
  have hnm := (name_of_methodNamed Bd.named Bd.method).1
  have hlk : meth.locks = false := BodyLoose.notSynchronized Bd
  have Y0 : own_S p l e ({ frames := 0, cells := 0, slots := 0, locals := 0 } : Room) s m #[(.ref a1), (.int (0 : Int32))] below meth c n0 s₁ h0 0 0 := ⟨[], Stand.of_body Bd, Fr.nil n0, by rw [← hh, Bd.state]; rfl, Z0⟩
  refine (?_ : own_Fin p e below _ _)
  refine own_st (fun t k => castTop (ef_6_RI m a1 (0 : Int32)) k) ?_
  refine own_iloadN Y0 hx (pc' := 1) (hb hby d6_0) rfl rfl ?_
  refine own_ifNo Y0 hx (pc' := 4) (hb hby d6_1) rfl (by decide) ?_
  refine own_aloadN Y0 hx (pc' := 5) (hb hby d6_4) rfl rfl rfl ?_
  refine own_aloadN Y0 hx (pc' := 6) (hb hby d6_5) rfl rfl rfl ?_
  refine own_getF Y0 hx (pc' := 9) (v := .null) hZ hown (host := "") (Or.inl (own_w hw 34 rfl)) Via.refl P0 (hb hby d6_6) rfl (fun T1 Y1 => ?_)
  refine own_putF Y1 hx (pc' := 12) hZ hown (host := "") (Or.inl (own_w hw 30 rfl)) Via.refl P2 P3 (Or.inl (own_w hw 31 rfl)) (own_w hw 12 rfl) (ty := (.object zs2)) (by decide) rfl rfl P4 (hb hby d6_9) rfl (fun T2 h2 Y2 K2 F2 => ?_)
  refine own_aloadN Y2 hx (pc' := 13) (hb hby d6_12) rfl rfl rfl ?_
  refine own_aloadN Y2 hx (pc' := 14) (hb hby d6_13) rfl rfl rfl ?_
  have F3 := (own_F (v := .null) P5 K2 (own_nr (sl_4 hw) own_nin0))
  refine own_getF Y2 hx (pc' := 17) (v := .null) hZ hown (host := "") (Or.inl (own_w hw 36 rfl)) Via.refl F3 (hb hby d6_14) rfl (fun T4 Y4 => ?_)
  have F5 := (own_F (v := v4) P7 K2 (own_nr (sl_0 hw) own_nin0))
  have F6 := (own_E P3 K2)
  refine own_putF Y4 hx (pc' := 20) hZ hown (host := "") (Or.inl (own_w hw 32 rfl)) Via.refl F5 F6 (Or.inl (own_w hw 33 rfl)) (own_w hw 12 rfl) (ty := (.object zs2)) (by decide) rfl rfl P4 (hb hby d6_17) rfl (fun T7 h7 Y7 K7 F7 => ?_)
  refine own_iloadN Y7 hx (pc' := 21) (hb hby d6_20) rfl rfl ?_
  refine own_iconst Y7 hx (pc' := 22) (x := (1 : Int32)) (hb hby d6_21) rfl (by decide) ?_
  refine own_icmpNo Y7 hx (pc' := 25) (hb hby d6_22) rfl (by decide) ?_
  refine own_aloadN Y7 hx (pc' := 26) (hb hby d6_25) rfl rfl rfl ?_
  refine own_aloadN Y7 hx (pc' := 27) (hb hby d6_26) rfl rfl rfl ?_
  have F8 := (own_F (v := .null) (own_F (v := .null) P8 K2 (own_nr (sl_6 hw) own_nin0)) K7 (own_nr (sl_7 hw) own_nin0))
  refine own_getF Y7 hx (pc' := 30) (v := .null) hZ hown (host := "") (Or.inl (own_w hw 43 rfl)) Via.refl F8 (hb hby d6_27) rfl (fun T9 Y9 => ?_)
  have F10 := (own_F (v := .null) (own_F (v := .null) P0 K2 (own_nr (sl_2 hw) own_nin0)) K7 (own_nr (sl_3 hw) own_nin0))
  have F11 := (own_E F6 K7)
  refine own_putF Y9 hx (pc' := 33) hZ hown (host := "") (Or.inl (own_w hw 34 rfl)) Via.refl F10 F11 (Or.inl (own_w hw 35 rfl)) (own_w hw 12 rfl) (ty := (.object zs2)) (by decide) rfl rfl P4 (hb hby d6_30) rfl (fun T12 h12 Y12 K12 F12 => ?_)
  refine own_aloadN Y12 hx (pc' := 34) (hb hby d6_33) rfl rfl rfl ?_
  refine own_aloadN Y12 hx (pc' := 35) (hb hby d6_34) rfl rfl rfl ?_
  have F13 := (own_F (v := .null) (own_F (v := .null) (own_F (v := .null) P9 K2 (own_nr (sl_8 hw) own_nin0)) K7 (own_nr (sl_9 hw) own_nin0)) K12 (own_nr (sl_10 hw) own_nin0))
  refine own_getF Y12 hx (pc' := 38) (v := .null) hZ hown (host := "") (Or.inl (own_w hw 45 rfl)) Via.refl F13 (hb hby d6_35) rfl (fun T14 Y14 => ?_)
  have F15 := (own_F (v := .null) (own_F (v := .null) F3 K7 (own_nr (sl_5 hw) own_nin0)) K12 (own_nr (sl_11 hw) own_nin0))
  have F16 := (own_E F11 K12)
  refine own_putF Y14 hx (pc' := 41) hZ hown (host := "") (Or.inl (own_w hw 36 rfl)) Via.refl F15 F16 (Or.inl (own_w hw 37 rfl)) (own_w hw 12 rfl) (ty := (.object zs2)) (by decide) rfl rfl P4 (hb hby d6_38) rfl (fun T17 h17 Y17 K17 F17 => ?_)
  refine own_aloadN Y17 hx (pc' := 42) (hb hby d6_41) rfl rfl rfl ?_
  refine own_aconstNull Y17 hx (pc' := 43) (hb hby d6_42) rfl ?_
  have F18 := (own_F (v := .null) (own_F (v := .null) F8 K12 (own_nr (sl_12 hw) own_nin0)) K17 (own_nr (sl_13 hw) own_nin0))
  have F19 := (own_E F16 K17)
  refine own_putF Y17 hx (pc' := 46) hZ hown (host := "") (Or.inl (own_w hw 43 rfl)) Via.refl F18 F19 (Or.inl (own_w hw 44 rfl)) (own_w hw 12 rfl) (ty := (.object zs2)) (by decide) rfl rfl P4 (hb hby d6_43) rfl (fun T20 h20 Y20 K20 F20 => ?_)
  refine own_aloadN Y20 hx (pc' := 47) (hb hby d6_46) rfl rfl rfl ?_
  refine own_aconstNull Y20 hx (pc' := 48) (hb hby d6_47) rfl ?_
  have F21 := (own_F (v := .null) (own_F (v := .null) F13 K17 (own_nr (sl_14 hw) own_nin0)) K20 (own_nr (sl_15 hw) own_nin0))
  have F22 := (own_E F19 K20)
  refine own_putF Y20 hx (pc' := 51) hZ hown (host := "") (Or.inl (own_w hw 45 rfl)) Via.refl F21 F22 (Or.inl (own_w hw 46 rfl)) (own_w hw 12 rfl) (ty := (.object zs2)) (by decide) rfl rfl P4 (hb hby d6_48) rfl (fun T23 h23 Y23 K23 F23 => ?_)
  have KC24 : own_Kp h0 h23 [(a1, Jvm.RoadKit.slotOf Z zs0 "key0" zs1), (a1, Jvm.RoadKit.slotOf Z zs0 "value0" zs1), (a1, Jvm.RoadKit.slotOf Z zs0 "key1" zs1), (a1, Jvm.RoadKit.slotOf Z zs0 "value1" zs1), (a1, Jvm.RoadKit.slotOf Z zs0 "key2" zs1), (a1, Jvm.RoadKit.slotOf Z zs0 "value2" zs1)] := (((((((own_Kp.refl h0 [(a1, Jvm.RoadKit.slotOf Z zs0 "key0" zs1), (a1, Jvm.RoadKit.slotOf Z zs0 "value0" zs1), (a1, Jvm.RoadKit.slotOf Z zs0 "key1" zs1), (a1, Jvm.RoadKit.slotOf Z zs0 "value1" zs1), (a1, Jvm.RoadKit.slotOf Z zs0 "key2" zs1), (a1, Jvm.RoadKit.slotOf Z zs0 "value2" zs1)]).trans K2 (own_allS (Or.inl (List.mem_of_getElem? (i := 0) rfl)) own_all0)).trans K7 (own_allS (Or.inl (List.mem_of_getElem? (i := 1) rfl)) own_all0)).trans K12 (own_allS (Or.inl (List.mem_of_getElem? (i := 2) rfl)) own_all0)).trans K17 (own_allS (Or.inl (List.mem_of_getElem? (i := 3) rfl)) own_all0)).trans K20 (own_allS (Or.inl (List.mem_of_getElem? (i := 4) rfl)) own_all0)).trans K23 (own_allS (Or.inl (List.mem_of_getElem? (i := 5) rfl)) own_all0))
  have F25 := (own_F (v := .null) (own_F (v := .null) (own_F (v := .null) (own_F (v := .null) (own_F (v := .null) F2 K7 (own_nr (sl_1 hw) own_nin0)) K12 (own_nr (sl_16 hw) own_nin0)) K17 (own_nr (sl_17 hw) own_nin0)) K20 (own_nr (sl_18 hw) own_nin0)) K23 (own_nr (sl_19 hw) own_nin0))
  have F26 := (own_F (v := .null) (own_F (v := .null) (own_F (v := .null) (own_F (v := .null) F7 K12 (own_nr (sl_20 hw) own_nin0)) K17 (own_nr (sl_21 hw) own_nin0)) K20 (own_nr (sl_22 hw) own_nin0)) K23 (own_nr (sl_23 hw) own_nin0))
  have F27 := (own_F (v := .null) (own_F (v := .null) (own_F (v := .null) F12 K17 (own_nr (sl_24 hw) own_nin0)) K20 (own_nr (sl_25 hw) own_nin0)) K23 (own_nr (sl_26 hw) own_nin0))
  have F28 := (own_F (v := .null) (own_F (v := .null) F17 K20 (own_nr (sl_27 hw) own_nin0)) K23 (own_nr (sl_28 hw) own_nin0))
  have F29 := (own_F (v := .null) F20 K23 (own_nr (sl_29 hw) own_nin0))
  exact own_ret0 Y23 hx hlk Bd.returns (hb hby d6_51) ⟨rfl, KC24, F25, F26, F27, F28, F29, F23⟩ (by decide) (by decide)
theorem pd__I_V : parseMethodDescriptor "(I)V" = some ⟨[.int], none⟩ := by decide +kernel
theorem d7_0 : decode prog_25_method_16_code 0 = .ok (.aload_n 0, 1) := by decide +kernel
theorem d7_1 : decode prog_25_method_16_code 1 = .ok (.getfield 45, 3) := by decide +kernel
theorem d7_4 : decode prog_25_method_16_code 4 = .ok (.ifnonnull 7, 3) := by decide +kernel
theorem d7_7 : decode prog_25_method_16_code 7 = .ok (.iconst 0, 1) := by decide +kernel
theorem d7_8 : decode prog_25_method_16_code 8 = .ok (.goto 26, 3) := by decide +kernel
theorem d7_34 : decode prog_25_method_16_code 34 = .ok (.ireturn, 1) := by decide +kernel
theorem ef_7_R (m : MethodId) (x0 : Addr) : entryFrame m #[(.ref x0)] 1 = mkF m 0 #[.val (.ref x0)] [] := by first | (simp [entryFrame, mkF, argsToLocals, Value.category]; done) | rfl
set_option maxRecDepth 65536 in
set_option maxHeartbeats 40000000 in
theorem rm7_5 (l : Launch) (Z : State) (a0 : Array Value) (hw : ∀ d ∈ tables_1, d.before a0 Z = true) (ws : List Jvm.Cond) (a1 : Addr) (h0 : Heap) (n0 : Nat) (Z0 : n0 ≤ Array.size h0) (P0 : Fld Z h0 a1 zs0 "key0" zs1 .null) :
    MetFree l (⟨zs0, "keyCount", "()I"⟩ : MethodName) (head1 (Jvm.Cond.code (⟨zs0, "keyCount", "()I"⟩ : MethodName) prog_25_method_16_code 1 (some .int) :: ws) ({ frames := 0, cells := 0, slots := 0, locals := 0 } : Room)) (fun a U => a = #[(.ref a1)] ∧ Z.Warmed39 U.vm ∧ U.heap = h0) (fun _ _ _ _ _ => True) (fun _ U o U' => ∃ v L, o = .returned v ∧ own_QQ n0 (own_Same (some (.int (0 : Int32))) h0) v U'.heap L ∧ FrameEnd U o U' L ({ frames := 0, cells := 0, slots := 0, locals := 0 } : Room).cells ({ frames := 0, cells := 0, slots := 0, locals := 0 } : Room).slots) := by
  refine MetFree.of_bodySF (plainFor_of_name pn_com_example_napkintree_napkintree_balancing_MultiwayTree_Node) hisR ?_
  intro p e s m args below meth c s₁ Bd hml0 hP hK
  obtain ⟨rfl, hZ, hh⟩ := hP
  have hx := Bd.exec
  have hby := Bd.bytes
  have hml : c.maxLocals = 1 := hml0
  have hown : s.vm.findClass zs0 = some m.cls := findClass_of_methodNamed Bd.named
  have hnm := (name_of_methodNamed Bd.named Bd.method).1
  have hlk : meth.locks = false := BodyLoose.notSynchronized Bd
  have Y0 : own_S p l e ({ frames := 0, cells := 0, slots := 0, locals := 0 } : Room) s m #[(.ref a1)] below meth c n0 s₁ h0 0 0 := ⟨[], Stand.of_body Bd, Fr.nil n0, by rw [← hh, Bd.state]; rfl, Z0⟩
  refine (?_ : own_Fin p e below _ _)
  refine own_st (fun t k => castTop (ef_7_R m a1) k) ?_
  refine own_aloadN Y0 hx (pc' := 1) (hb hby d7_0) rfl rfl rfl ?_
  refine own_getF Y0 hx (pc' := 4) (v := .null) hZ hown (host := "") (Or.inl (own_w hw 30 rfl)) Via.refl P0 (hb hby d7_1) rfl (fun T1 Y1 => ?_)
  refine own_ifnonnullNo Y1 hx (pc' := 7) (hb hby d7_4) rfl ?_
  refine own_iconst Y1 hx (pc' := 8) (x := (0 : Int32)) (hb hby d7_7) rfl (by decide) ?_
  refine own_goto Y1 hx (pc' := 34) (hb hby d7_8) (by decide) (by decide) ?_
  exact own_retN Y1 hx hlk Bd.returns rfl (by simp) (hb hby d7_34) ⟨rfl, rfl⟩ (by decide) (by decide)
theorem pd___I : parseMethodDescriptor "()I" = some ⟨[], some .int⟩ := by decide +kernel
theorem d8_0 : decode prog_25_method_17_code 0 = .ok (.iload_n 1, 1) := by decide +kernel
theorem d8_1 : decode prog_25_method_17_code 1 = .ok (.tableswitch 48 0 2 #[27, 34, 41], 27) := by decide +kernel
theorem d8_28 : decode prog_25_method_17_code 28 = .ok (.aload_n 0, 1) := by decide +kernel
theorem d8_29 : decode prog_25_method_17_code 29 = .ok (.getfield 45, 3) := by decide +kernel
theorem d8_32 : decode prog_25_method_17_code 32 = .ok (.goto 26, 3) := by decide +kernel
theorem d8_58 : decode prog_25_method_17_code 58 = .ok (.astore_n 2, 1) := by decide +kernel
theorem d8_59 : decode prog_25_method_17_code 59 = .ok (.aload_n 2, 1) := by decide +kernel
theorem d8_60 : decode prog_25_method_17_code 60 = .ok (.invokestatic 71, 3) := by decide +kernel
theorem d9_0 : decode prog_25_method_19_code 0 = .ok (.aload_n 0, 1) := by decide +kernel
theorem d9_1 : decode prog_25_method_19_code 1 = .ok (.getstatic 94, 3) := by decide +kernel
theorem d9_4 : decode prog_25_method_19_code 4 = .ok (.if_acmp .ne 7, 3) := by decide +kernel
theorem d9_11 : decode prog_25_method_19_code 11 = .ok (.aload_n 0, 1) := by decide +kernel
theorem d9_12 : decode prog_25_method_19_code 12 = .ok (.areturn, 1) := by decide +kernel
theorem ef_9_N (m : MethodId)  : entryFrame m #[.null] 1 = mkF m 0 #[.val .null] [] := by first | (simp [entryFrame, mkF, argsToLocals, Value.category]; done) | rfl
set_option maxRecDepth 65536 in
set_option maxHeartbeats 40000000 in
theorem rm9_6 (l : Launch) (Z : State) (a0 : Array Value) (hw : ∀ d ∈ tables_1, d.before a0 Z = true) (ws : List Jvm.Cond) (a1 : Addr) (h0 : Heap) (n0 : Nat) (Z0 : n0 ≤ Array.size h0) (P0 : Sta Z h0 zs0 "NULL_KEY" zs1 (.ref a1)) :
    MetFree l (⟨zs0, "keyIn", zs4⟩ : MethodName) (head1 (Jvm.Cond.code (⟨zs0, "keyIn", zs4⟩ : MethodName) prog_25_method_19_code 1 (some (.object zs2)) :: ws) ({ frames := 0, cells := 0, slots := 0, locals := 0 } : Room)) (fun a U => a = #[.null] ∧ Z.Warmed39 U.vm ∧ U.heap = h0) (fun _ _ _ _ _ => True) (fun _ U o U' => ∃ v L, o = .returned v ∧ own_QQ n0 (own_Same (some .null) h0) v U'.heap L ∧ FrameEnd U o U' L ({ frames := 0, cells := 0, slots := 0, locals := 0 } : Room).cells ({ frames := 0, cells := 0, slots := 0, locals := 0 } : Room).slots) := by
  refine MetFree.of_bodySF (plainFor_of_name pn_com_example_napkintree_napkintree_balancing_MultiwayTree_Node) hisR ?_
  intro p e s m args below meth c s₁ Bd hml0 hP hK
  obtain ⟨rfl, hZ, hh⟩ := hP
  have hx := Bd.exec
  have hby := Bd.bytes
  have hml : c.maxLocals = 1 := hml0
  have hown : s.vm.findClass zs0 = some m.cls := findClass_of_methodNamed Bd.named
  have hnm := (name_of_methodNamed Bd.named Bd.method).1
  have hlk : meth.locks = false := BodyLoose.notSynchronized Bd
  have Y0 : own_S p l e ({ frames := 0, cells := 0, slots := 0, locals := 0 } : Room) s m #[.null] below meth c n0 s₁ h0 0 0 := ⟨[], Stand.of_body Bd, Fr.nil n0, by rw [← hh, Bd.state]; rfl, Z0⟩
  refine (?_ : own_Fin p e below _ _)
  refine own_st (fun t k => castTop (ef_9_N m ) k) ?_
  refine own_aloadN Y0 hx (pc' := 1) (hb hby d9_0) rfl rfl rfl ?_
  refine own_getS Y0 hx (pc' := 4) (v := (.ref a1)) hZ hown (host := "") (Or.inl (own_w hw 28 rfl)) Via.refl P0 (hb hby d9_1) rfl (fun T1 Y1 => ?_)
  refine own_acmp Y1 hx (pc' := 11) (same := false) (hb hby d9_4) rfl rfl (decide_eq_false nofun) (by decide) (by decide) ?_
  refine own_aloadN Y1 hx (pc' := 12) (hb hby d9_11) rfl rfl rfl ?_
  exact own_retA Y1 hx hlk Bd.returns rfl rfl rfl (hb hby d9_12) ⟨rfl, rfl⟩ (by decide) (by decide)
theorem d8_63 : decode prog_25_method_17_code 63 = .ok (.areturn, 1) := by decide +kernel
theorem ef_8_RI (m : MethodId) (x0 : Addr) (x1 : Int32) : entryFrame m #[(.ref x0), (.int x1)] 3 = mkF m 0 #[.val (.ref x0), .val (.int x1), .unset] [] := by first | (simp [entryFrame, mkF, argsToLocals, Value.category]; done) | rfl
set_option maxRecDepth 65536 in
set_option maxHeartbeats 40000000 in
theorem rm8_7 (l : Launch) (Z : State) (a0 : Array Value) (hw : ∀ d ∈ tables_1, d.before a0 Z = true) (ws : List Jvm.Cond) (a1 : Addr) (a2 : Addr) (h0 : Heap) (n0 : Nat) (Z0 : n0 ≤ Array.size h0) (P0 : Fld Z h0 a1 zs0 "key0" zs1 .null) (P1 : Sta Z h0 zs0 "NULL_KEY" zs1 (.ref a2)) :
    MetFree l (⟨zs0, "key", zs6⟩ : MethodName) (head1 (Jvm.Cond.code (⟨zs0, "key", zs6⟩ : MethodName) prog_25_method_17_code 3 (some (.object zs2)) :: ws) ({ frames := 1, cells := 0, slots := 0, locals := 12 } : Room)) (fun a U => a = #[(.ref a1), (.int (0 : Int32))] ∧ Z.Warmed39 U.vm ∧ U.heap = h0) (fun _ _ _ _ _ => True) (fun _ U o U' => ∃ v L, o = .returned v ∧ own_QQ n0 (own_Same (some .null) h0) v U'.heap L ∧ FrameEnd U o U' L ({ frames := 1, cells := 0, slots := 0, locals := 12 } : Room).cells ({ frames := 1, cells := 0, slots := 0, locals := 12 } : Room).slots) := by
  refine MetFree.of_bodySF (plainFor_of_name pn_com_example_napkintree_napkintree_balancing_MultiwayTree_Node) hisR ?_
  intro p e s m args below meth c s₁ Bd hml0 hP hK
  obtain ⟨rfl, hZ, hh⟩ := hP
  have hx := Bd.exec
  have hby := Bd.bytes
  have hml : c.maxLocals = 3 := hml0
  have hown : s.vm.findClass zs0 = some m.cls := findClass_of_methodNamed Bd.named
  have hnm := (name_of_methodNamed Bd.named Bd.method).1
  have hlk : meth.locks = false := BodyLoose.notSynchronized Bd
  have Y0 : own_S p l e ({ frames := 1, cells := 0, slots := 0, locals := 12 } : Room) s m #[(.ref a1), (.int (0 : Int32))] below meth c n0 s₁ h0 0 0 := ⟨[], Stand.of_body Bd, Fr.nil n0, by rw [← hh, Bd.state]; rfl, Z0⟩
  refine (?_ : own_Fin p e below _ _)
  refine own_st (fun t k => castTop (ef_8_RI m a1 (0 : Int32)) k) ?_
  refine own_iloadN Y0 hx (pc' := 1) (hb hby d8_0) rfl rfl ?_
  refine own_tswIn Y0 hx (pc' := 28) (o := 27) (hb hby d8_1) (by decide) (by decide) (by decide) (by decide) ?_
  refine own_aloadN Y0 hx (pc' := 29) (hb hby d8_28) rfl rfl rfl ?_
  refine own_getF Y0 hx (pc' := 32) (v := .null) hZ hown (host := "") (Or.inl (own_w hw 30 rfl)) Via.refl P0 (hb hby d8_29) rfl (fun T1 Y1 => ?_)
  refine own_goto Y1 hx (pc' := 58) (hb hby d8_32) (by decide) (by decide) ?_
  refine own_astoreN Y1 hx (pc' := 59) (Ls' := #[.val (.ref a1), .val (.int (0 : Int32)), .val .null]) (hb hby d8_58) rfl rfl rfl ?_
  refine own_aloadN Y1 hx (pc' := 60) (hb hby d8_59) rfl rfl rfl ?_
  refine own_static Y1 hx (pc' := 63) (W := 0) (cl' := 0) (sl' := 0) (as' := [.null]) (S' := []) hZ hown (own_w hw 57 rfl) (own_w hw 58 rfl) (own_w hw 13 rfl) (own_w hw 59 rfl) (by decide) (rm9_6 l Z a0 hw [] a2 h0 n0 (own_sz Y1) P1) (hb hby d8_60) rfl (by rw [hml]; rfl) rfl (lenOf pd__Ljava_lang_Object__Ljava_lang_Object_ rfl) rfl (by decide) (by decide) rfl rfl (by decide) (by decide) own_Same.sz (own_fixS (S2 := [.null]) rfl (fun T2 Y2 => ?_))
  exact own_retA Y2 hx hlk Bd.returns rfl rfl rfl (hb hby d8_63) ⟨rfl, rfl⟩ (by decide) (by decide)
theorem pd__I_Ljava_lang_Object_ : parseMethodDescriptor "(I)Ljava/lang/Object;" = some ⟨[.int], some (.object "java/lang/Object")⟩ := by decide +kernel
theorem d10_0 : decode method_2_code 0 = .ok (.aload_n 0, 1) := by decide +kernel
theorem d10_1 : decode method_2_code 1 = .ok (.ifnonnull 13, 3) := by decide +kernel
theorem d10_4 : decode method_2_code 4 = .ok (.aload_n 1, 1) := by decide +kernel
theorem d10_5 : decode method_2_code 5 = .ok (.ifnonnull 7, 3) := by decide +kernel
theorem d10_8 : decode method_2_code 8 = .ok (.iconst 1, 1) := by decide +kernel
theorem d10_9 : decode method_2_code 9 = .ok (.goto 4, 3) := by decide +kernel
theorem d10_13 : decode method_2_code 13 = .ok (.ireturn, 1) := by decide +kernel
theorem ef_10_NN (m : MethodId)  : entryFrame m #[.null, .null] 2 = mkF m 0 #[.val .null, .val .null] [] := by first | (simp [entryFrame, mkF, argsToLocals, Value.category]; done) | rfl
theorem pn_com_example_napkintree_napkintree_balancing_NodeRemoveEntryPinLaw : plainName "com/example/napkintree/napkintree/balancing/NodeRemoveEntryPinLaw" = true := by first | (simp [plainName, overriddenIn]; done) | decide +kernel
set_option maxRecDepth 65536 in
set_option maxHeartbeats 40000000 in
theorem rm10_8 (l : Launch) (Z : State) (a0 : Array Value) (hw : ∀ d ∈ tables_1, d.before a0 Z = true) (ws : List Jvm.Cond) (h0 : Heap) (n0 : Nat) (Z0 : n0 ≤ Array.size h0) :
    MetFree l (⟨zs7, "same", zs8⟩ : MethodName) (head1 (Jvm.Cond.code (⟨zs7, "same", zs8⟩ : MethodName) method_2_code 2 (some .boolean) :: ws) ({ frames := 0, cells := 0, slots := 0, locals := 0 } : Room)) (fun a U => a = #[.null, .null] ∧ Z.Warmed39 U.vm ∧ U.heap = h0) (fun _ _ _ _ _ => True) (fun _ U o U' => ∃ v L, o = .returned v ∧ own_QQ n0 (own_Same (some (.int (1 : Int32))) h0) v U'.heap L ∧ FrameEnd U o U' L ({ frames := 0, cells := 0, slots := 0, locals := 0 } : Room).cells ({ frames := 0, cells := 0, slots := 0, locals := 0 } : Room).slots) := by
  refine MetFree.of_bodySF (plainFor_of_name pn_com_example_napkintree_napkintree_balancing_NodeRemoveEntryPinLaw) hisR ?_
  intro p e s m args below meth c s₁ Bd hml0 hP hK
  obtain ⟨rfl, hZ, hh⟩ := hP
  have hx := Bd.exec
  have hby := Bd.bytes
  have hml : c.maxLocals = 2 := hml0
  have hown : s.vm.findClass zs7 = some m.cls := findClass_of_methodNamed Bd.named
  have hnm := (name_of_methodNamed Bd.named Bd.method).1
  have hlk : meth.locks = false := BodyLoose.notSynchronized Bd
  have Y0 : own_S p l e ({ frames := 0, cells := 0, slots := 0, locals := 0 } : Room) s m #[.null, .null] below meth c n0 s₁ h0 0 0 := ⟨[], Stand.of_body Bd, Fr.nil n0, by rw [← hh, Bd.state]; rfl, Z0⟩
  refine (?_ : own_Fin p e below _ _)
  refine own_st (fun t k => castTop (ef_10_NN m ) k) ?_
  refine own_aloadN Y0 hx (pc' := 1) (hb hby d10_0) rfl rfl rfl ?_
  refine own_ifnonnullNo Y0 hx (pc' := 4) (hb hby d10_1) rfl ?_
  refine own_aloadN Y0 hx (pc' := 5) (hb hby d10_4) rfl rfl rfl ?_
  refine own_ifnonnullNo Y0 hx (pc' := 8) (hb hby d10_5) rfl ?_
  refine own_iconst Y0 hx (pc' := 9) (x := (1 : Int32)) (hb hby d10_8) rfl (by decide) ?_
  refine own_goto Y0 hx (pc' := 13) (hb hby d10_9) (by decide) (by decide) ?_
  exact own_retN Y0 hx hlk Bd.returns rfl (by simp) (hb hby d10_13) ⟨rfl, rfl⟩ (by decide) (by decide)
theorem pd__Ljava_lang_Integer_Ljava_lang_Integer__Z : parseMethodDescriptor "(Ljava/lang/Integer;Ljava/lang/Integer;)Z" = some ⟨[(.object "java/lang/Integer"), (.object "java/lang/Integer")], some .boolean⟩ := by decide +kernel
theorem d8_35 : decode prog_25_method_17_code 35 = .ok (.aload_n 0, 1) := by decide +kernel
theorem d8_36 : decode prog_25_method_17_code 36 = .ok (.getfield 39, 3) := by decide +kernel
theorem d8_39 : decode prog_25_method_17_code 39 = .ok (.goto 19, 3) := by decide +kernel
set_option maxRecDepth 65536 in
set_option maxHeartbeats 40000000 in
theorem rm8_9 (l : Launch) (Z : State) (a0 : Array Value) (hw : ∀ d ∈ tables_1, d.before a0 Z = true) (ws : List Jvm.Cond) (a1 : Addr) (a2 : Addr) (h0 : Heap) (n0 : Nat) (Z0 : n0 ≤ Array.size h0) (P0 : Fld Z h0 a1 zs0 "key1" zs1 .null) (P1 : Sta Z h0 zs0 "NULL_KEY" zs1 (.ref a2)) :
    MetFree l (⟨zs0, "key", zs6⟩ : MethodName) (head1 (Jvm.Cond.code (⟨zs0, "key", zs6⟩ : MethodName) prog_25_method_17_code 3 (some (.object zs2)) :: ws) ({ frames := 1, cells := 0, slots := 0, locals := 12 } : Room)) (fun a U => a = #[(.ref a1), (.int (1 : Int32))] ∧ Z.Warmed39 U.vm ∧ U.heap = h0) (fun _ _ _ _ _ => True) (fun _ U o U' => ∃ v L, o = .returned v ∧ own_QQ n0 (own_Same (some .null) h0) v U'.heap L ∧ FrameEnd U o U' L ({ frames := 1, cells := 0, slots := 0, locals := 12 } : Room).cells ({ frames := 1, cells := 0, slots := 0, locals := 12 } : Room).slots) := by
  refine MetFree.of_bodySF (plainFor_of_name pn_com_example_napkintree_napkintree_balancing_MultiwayTree_Node) hisR ?_
  intro p e s m args below meth c s₁ Bd hml0 hP hK
  obtain ⟨rfl, hZ, hh⟩ := hP
  have hx := Bd.exec
  have hby := Bd.bytes
  have hml : c.maxLocals = 3 := hml0
  have hown : s.vm.findClass zs0 = some m.cls := findClass_of_methodNamed Bd.named
  have hnm := (name_of_methodNamed Bd.named Bd.method).1
  have hlk : meth.locks = false := BodyLoose.notSynchronized Bd
  have Y0 : own_S p l e ({ frames := 1, cells := 0, slots := 0, locals := 12 } : Room) s m #[(.ref a1), (.int (1 : Int32))] below meth c n0 s₁ h0 0 0 := ⟨[], Stand.of_body Bd, Fr.nil n0, by rw [← hh, Bd.state]; rfl, Z0⟩
  refine (?_ : own_Fin p e below _ _)
  refine own_st (fun t k => castTop (ef_8_RI m a1 (1 : Int32)) k) ?_
  refine own_iloadN Y0 hx (pc' := 1) (hb hby d8_0) rfl rfl ?_
  refine own_tswIn Y0 hx (pc' := 35) (o := 34) (hb hby d8_1) (by decide) (by decide) (by decide) (by decide) ?_
  refine own_aloadN Y0 hx (pc' := 36) (hb hby d8_35) rfl rfl rfl ?_
  refine own_getF Y0 hx (pc' := 39) (v := .null) hZ hown (host := "") (Or.inl (own_w hw 34 rfl)) Via.refl P0 (hb hby d8_36) rfl (fun T1 Y1 => ?_)
  refine own_goto Y1 hx (pc' := 58) (hb hby d8_39) (by decide) (by decide) ?_
  refine own_astoreN Y1 hx (pc' := 59) (Ls' := #[.val (.ref a1), .val (.int (1 : Int32)), .val .null]) (hb hby d8_58) rfl rfl rfl ?_
  refine own_aloadN Y1 hx (pc' := 60) (hb hby d8_59) rfl rfl rfl ?_
  refine own_static Y1 hx (pc' := 63) (W := 0) (cl' := 0) (sl' := 0) (as' := [.null]) (S' := []) hZ hown (own_w hw 57 rfl) (own_w hw 58 rfl) (own_w hw 13 rfl) (own_w hw 59 rfl) (by decide) (rm9_6 l Z a0 hw [] a2 h0 n0 (own_sz Y1) P1) (hb hby d8_60) rfl (by rw [hml]; rfl) rfl (lenOf pd__Ljava_lang_Object__Ljava_lang_Object_ rfl) rfl (by decide) (by decide) rfl rfl (by decide) (by decide) own_Same.sz (own_fixS (S2 := [.null]) rfl (fun T2 Y2 => ?_))
  exact own_retA Y2 hx hlk Bd.returns rfl rfl rfl (hb hby d8_63) ⟨rfl, rfl⟩ (by decide) (by decide)
theorem d11_0 : decode prog_25_method_20_code 0 = .ok (.iload_n 1, 1) := by decide +kernel
theorem d11_1 : decode prog_25_method_20_code 1 = .ok (.tableswitch 48 0 2 #[27, 34, 41], 27) := by decide +kernel
theorem d11_28 : decode prog_25_method_20_code 28 = .ok (.aload_n 0, 1) := by decide +kernel
theorem d11_29 : decode prog_25_method_20_code 29 = .ok (.getfield 48, 3) := by decide +kernel
theorem d11_32 : decode prog_25_method_20_code 32 = .ok (.goto 26, 3) := by decide +kernel
theorem d11_58 : decode prog_25_method_20_code 58 = .ok (.astore_n 2, 1) := by decide +kernel
theorem d11_59 : decode prog_25_method_20_code 59 = .ok (.aload_n 2, 1) := by decide +kernel
theorem d11_60 : decode prog_25_method_20_code 60 = .ok (.areturn, 1) := by decide +kernel
theorem ef_11_RI (m : MethodId) (x0 : Addr) (x1 : Int32) : entryFrame m #[(.ref x0), (.int x1)] 3 = mkF m 0 #[.val (.ref x0), .val (.int x1), .unset] [] := by first | (simp [entryFrame, mkF, argsToLocals, Value.category]; done) | rfl
set_option maxRecDepth 65536 in
set_option maxHeartbeats 40000000 in
theorem rm11_10 (l : Launch) (Z : State) (a0 : Array Value) (hw : ∀ d ∈ tables_1, d.before a0 Z = true) (ws : List Jvm.Cond) (a1 : Addr) (h0 : Heap) (n0 : Nat) (Z0 : n0 ≤ Array.size h0) (P0 : Fld Z h0 a1 zs0 "value0" zs1 .null) :
    MetFree l (⟨zs0, "value", zs6⟩ : MethodName) (head1 (Jvm.Cond.code (⟨zs0, "value", zs6⟩ : MethodName) prog_25_method_20_code 3 (some (.object zs2)) :: ws) ({ frames := 0, cells := 0, slots := 0, locals := 0 } : Room)) (fun a U => a = #[(.ref a1), (.int (0 : Int32))] ∧ Z.Warmed39 U.vm ∧ U.heap = h0) (fun _ _ _ _ _ => True) (fun _ U o U' => ∃ v L, o = .returned v ∧ own_QQ n0 (own_Same (some .null) h0) v U'.heap L ∧ FrameEnd U o U' L ({ frames := 0, cells := 0, slots := 0, locals := 0 } : Room).cells ({ frames := 0, cells := 0, slots := 0, locals := 0 } : Room).slots) := by
  refine MetFree.of_bodySF (plainFor_of_name pn_com_example_napkintree_napkintree_balancing_MultiwayTree_Node) hisR ?_
  intro p e s m args below meth c s₁ Bd hml0 hP hK
  obtain ⟨rfl, hZ, hh⟩ := hP
  have hx := Bd.exec
  have hby := Bd.bytes
  have hml : c.maxLocals = 3 := hml0
  have hown : s.vm.findClass zs0 = some m.cls := findClass_of_methodNamed Bd.named
  have hnm := (name_of_methodNamed Bd.named Bd.method).1
  have hlk : meth.locks = false := BodyLoose.notSynchronized Bd
  have Y0 : own_S p l e ({ frames := 0, cells := 0, slots := 0, locals := 0 } : Room) s m #[(.ref a1), (.int (0 : Int32))] below meth c n0 s₁ h0 0 0 := ⟨[], Stand.of_body Bd, Fr.nil n0, by rw [← hh, Bd.state]; rfl, Z0⟩
  refine (?_ : own_Fin p e below _ _)
  refine own_st (fun t k => castTop (ef_11_RI m a1 (0 : Int32)) k) ?_
  refine own_iloadN Y0 hx (pc' := 1) (hb hby d11_0) rfl rfl ?_
  refine own_tswIn Y0 hx (pc' := 28) (o := 27) (hb hby d11_1) (by decide) (by decide) (by decide) (by decide) ?_
  refine own_aloadN Y0 hx (pc' := 29) (hb hby d11_28) rfl rfl rfl ?_
  refine own_getF Y0 hx (pc' := 32) (v := .null) hZ hown (host := "") (Or.inl (own_w hw 32 rfl)) Via.refl P0 (hb hby d11_29) rfl (fun T1 Y1 => ?_)
  refine own_goto Y1 hx (pc' := 58) (hb hby d11_32) (by decide) (by decide) ?_
  refine own_astoreN Y1 hx (pc' := 59) (Ls' := #[.val (.ref a1), .val (.int (0 : Int32)), .val .null]) (hb hby d11_58) rfl rfl rfl ?_
  refine own_aloadN Y1 hx (pc' := 60) (hb hby d11_59) rfl rfl rfl ?_
  exact own_retA Y1 hx hlk Bd.returns rfl rfl rfl (hb hby d11_60) ⟨rfl, rfl⟩ (by decide) (by decide)
theorem d11_35 : decode prog_25_method_20_code 35 = .ok (.aload_n 0, 1) := by decide +kernel
theorem d11_36 : decode prog_25_method_20_code 36 = .ok (.getfield 42, 3) := by decide +kernel
theorem d11_39 : decode prog_25_method_20_code 39 = .ok (.goto 19, 3) := by decide +kernel
set_option maxRecDepth 65536 in
set_option maxHeartbeats 40000000 in
theorem rm11_11 (l : Launch) (Z : State) (a0 : Array Value) (hw : ∀ d ∈ tables_1, d.before a0 Z = true) (ws : List Jvm.Cond) (a1 : Addr) (h0 : Heap) (n0 : Nat) (Z0 : n0 ≤ Array.size h0) (P0 : Fld Z h0 a1 zs0 "value1" zs1 .null) :
    MetFree l (⟨zs0, "value", zs6⟩ : MethodName) (head1 (Jvm.Cond.code (⟨zs0, "value", zs6⟩ : MethodName) prog_25_method_20_code 3 (some (.object zs2)) :: ws) ({ frames := 0, cells := 0, slots := 0, locals := 0 } : Room)) (fun a U => a = #[(.ref a1), (.int (1 : Int32))] ∧ Z.Warmed39 U.vm ∧ U.heap = h0) (fun _ _ _ _ _ => True) (fun _ U o U' => ∃ v L, o = .returned v ∧ own_QQ n0 (own_Same (some .null) h0) v U'.heap L ∧ FrameEnd U o U' L ({ frames := 0, cells := 0, slots := 0, locals := 0 } : Room).cells ({ frames := 0, cells := 0, slots := 0, locals := 0 } : Room).slots) := by
  refine MetFree.of_bodySF (plainFor_of_name pn_com_example_napkintree_napkintree_balancing_MultiwayTree_Node) hisR ?_
  intro p e s m args below meth c s₁ Bd hml0 hP hK
  obtain ⟨rfl, hZ, hh⟩ := hP
  have hx := Bd.exec
  have hby := Bd.bytes
  have hml : c.maxLocals = 3 := hml0
  have hown : s.vm.findClass zs0 = some m.cls := findClass_of_methodNamed Bd.named
  have hnm := (name_of_methodNamed Bd.named Bd.method).1
  have hlk : meth.locks = false := BodyLoose.notSynchronized Bd
  have Y0 : own_S p l e ({ frames := 0, cells := 0, slots := 0, locals := 0 } : Room) s m #[(.ref a1), (.int (1 : Int32))] below meth c n0 s₁ h0 0 0 := ⟨[], Stand.of_body Bd, Fr.nil n0, by rw [← hh, Bd.state]; rfl, Z0⟩
  refine (?_ : own_Fin p e below _ _)
  refine own_st (fun t k => castTop (ef_11_RI m a1 (1 : Int32)) k) ?_
  refine own_iloadN Y0 hx (pc' := 1) (hb hby d11_0) rfl rfl ?_
  refine own_tswIn Y0 hx (pc' := 35) (o := 34) (hb hby d11_1) (by decide) (by decide) (by decide) (by decide) ?_
  refine own_aloadN Y0 hx (pc' := 36) (hb hby d11_35) rfl rfl rfl ?_
  refine own_getF Y0 hx (pc' := 39) (v := .null) hZ hown (host := "") (Or.inl (own_w hw 36 rfl)) Via.refl P0 (hb hby d11_36) rfl (fun T1 Y1 => ?_)
  refine own_goto Y1 hx (pc' := 58) (hb hby d11_39) (by decide) (by decide) ?_
  refine own_astoreN Y1 hx (pc' := 59) (Ls' := #[.val (.ref a1), .val (.int (1 : Int32)), .val .null]) (hb hby d11_58) rfl rfl rfl ?_
  refine own_aloadN Y1 hx (pc' := 60) (hb hby d11_59) rfl rfl rfl ?_
  exact own_retA Y1 hx hlk Bd.returns rfl rfl rfl (hb hby d11_60) ⟨rfl, rfl⟩ (by decide) (by decide)
theorem d11_42 : decode prog_25_method_20_code 42 = .ok (.aload_n 0, 1) := by decide +kernel
theorem d11_43 : decode prog_25_method_20_code 43 = .ok (.getfield 36, 3) := by decide +kernel
theorem d11_46 : decode prog_25_method_20_code 46 = .ok (.goto 12, 3) := by decide +kernel
set_option maxRecDepth 65536 in
set_option maxHeartbeats 40000000 in
theorem rm11_12 (l : Launch) (Z : State) (a0 : Array Value) (hw : ∀ d ∈ tables_1, d.before a0 Z = true) (ws : List Jvm.Cond) (a1 : Addr) (h0 : Heap) (n0 : Nat) (Z0 : n0 ≤ Array.size h0) (P0 : Fld Z h0 a1 zs0 "value2" zs1 .null) :
    MetFree l (⟨zs0, "value", zs6⟩ : MethodName) (head1 (Jvm.Cond.code (⟨zs0, "value", zs6⟩ : MethodName) prog_25_method_20_code 3 (some (.object zs2)) :: ws) ({ frames := 0, cells := 0, slots := 0, locals := 0 } : Room)) (fun a U => a = #[(.ref a1), (.int (2 : Int32))] ∧ Z.Warmed39 U.vm ∧ U.heap = h0) (fun _ _ _ _ _ => True) (fun _ U o U' => ∃ v L, o = .returned v ∧ own_QQ n0 (own_Same (some .null) h0) v U'.heap L ∧ FrameEnd U o U' L ({ frames := 0, cells := 0, slots := 0, locals := 0 } : Room).cells ({ frames := 0, cells := 0, slots := 0, locals := 0 } : Room).slots) := by
  refine MetFree.of_bodySF (plainFor_of_name pn_com_example_napkintree_napkintree_balancing_MultiwayTree_Node) hisR ?_
  intro p e s m args below meth c s₁ Bd hml0 hP hK
  obtain ⟨rfl, hZ, hh⟩ := hP
  have hx := Bd.exec
  have hby := Bd.bytes
  have hml : c.maxLocals = 3 := hml0
  have hown : s.vm.findClass zs0 = some m.cls := findClass_of_methodNamed Bd.named
  have hnm := (name_of_methodNamed Bd.named Bd.method).1
  have hlk : meth.locks = false := BodyLoose.notSynchronized Bd
  have Y0 : own_S p l e ({ frames := 0, cells := 0, slots := 0, locals := 0 } : Room) s m #[(.ref a1), (.int (2 : Int32))] below meth c n0 s₁ h0 0 0 := ⟨[], Stand.of_body Bd, Fr.nil n0, by rw [← hh, Bd.state]; rfl, Z0⟩
  refine (?_ : own_Fin p e below _ _)
  refine own_st (fun t k => castTop (ef_11_RI m a1 (2 : Int32)) k) ?_
  refine own_iloadN Y0 hx (pc' := 1) (hb hby d11_0) rfl rfl ?_
  refine own_tswIn Y0 hx (pc' := 42) (o := 41) (hb hby d11_1) (by decide) (by decide) (by decide) (by decide) ?_
  refine own_aloadN Y0 hx (pc' := 43) (hb hby d11_42) rfl rfl rfl ?_
  refine own_getF Y0 hx (pc' := 46) (v := .null) hZ hown (host := "") (Or.inl (own_w hw 45 rfl)) Via.refl P0 (hb hby d11_43) rfl (fun T1 Y1 => ?_)
  refine own_goto Y1 hx (pc' := 58) (hb hby d11_46) (by decide) (by decide) ?_
  refine own_astoreN Y1 hx (pc' := 59) (Ls' := #[.val (.ref a1), .val (.int (2 : Int32)), .val .null]) (hb hby d11_58) rfl rfl rfl ?_
  refine own_aloadN Y1 hx (pc' := 60) (hb hby d11_59) rfl rfl rfl ?_
  exact own_retA Y1 hx hlk Bd.returns rfl rfl rfl (hb hby d11_60) ⟨rfl, rfl⟩ (by decide) (by decide)
theorem d1_0 : decode jdk_33_method_22_code 0 = .ok (.iload_n 0, 1) := by decide +kernel
theorem d1_1 : decode jdk_33_method_22_code 1 = .ok (.bipush (-128), 2) := by decide +kernel
theorem d1_3 : decode jdk_33_method_22_code 3 = .ok (.if_icmp .lt 20, 3) := by decide +kernel
theorem d1_23 : decode jdk_33_method_22_code 23 = .ok (.new 1, 3) := by decide +kernel
theorem d1_26 : decode jdk_33_method_22_code 26 = .ok (.dup, 1) := by decide +kernel
theorem d1_27 : decode jdk_33_method_22_code 27 = .ok (.iload_n 0, 1) := by decide +kernel
theorem d1_28 : decode jdk_33_method_22_code 28 = .ok (.invokespecial 199, 3) := by decide +kernel
theorem d13_0 : decode jdk_33_method_23_code 0 = .ok (.aload_n 0, 1) := by decide +kernel
theorem d13_1 : decode jdk_33_method_23_code 1 = .ok (.invokespecial 202, 3) := by decide +kernel
theorem d14_0 : decode jdk_18_method_1_code 0 = .ok (.aload_n 0, 1) := by decide +kernel
theorem d14_1 : decode jdk_18_method_1_code 1 = .ok (.invokespecial 1, 3) := by decide +kernel
theorem d14_4 : decode jdk_18_method_1_code 4 = .ok (.return_, 1) := by decide +kernel
theorem ef_14_R (m : MethodId) (x0 : Addr) : entryFrame m #[(.ref x0)] 1 = mkF m 0 #[.val (.ref x0)] [] := by first | (simp [entryFrame, mkF, argsToLocals, Value.category]; done) | rfl
theorem pn_java_lang_Number : plainName "java/lang/Number" = true := by first | (simp [plainName, overriddenIn]; done) | decide +kernel
set_option maxRecDepth 65536 in
set_option maxHeartbeats 40000000 in
theorem rm14_13 (l : Launch) (Z : State) (a0 : Array Value) (hw : ∀ d ∈ tables_1, d.before a0 Z = true) (ws : List Jvm.Cond) (a1 : Addr) (h0 : Heap) (n0 : Nat) (Z0 : n0 ≤ Array.size h0) :
    MetFree l (⟨"java/lang/Number", "<init>", "()V"⟩ : MethodName) (head1 (Jvm.Cond.code (⟨"java/lang/Number", "<init>", "()V"⟩ : MethodName) jdk_18_method_1_code 1 none :: ws) ({ frames := 1, cells := 0, slots := 0, locals := 12 } : Room)) (fun a U => a = #[(.ref a1)] ∧ Z.Warmed39 U.vm ∧ U.heap = h0) (fun _ _ _ _ _ => True) (fun _ U o U' => ∃ v L, o = .returned v ∧ own_QQ n0 (own_Same none h0) v U'.heap L ∧ FrameEnd U o U' L ({ frames := 1, cells := 0, slots := 0, locals := 12 } : Room).cells ({ frames := 1, cells := 0, slots := 0, locals := 12 } : Room).slots) := by
  refine MetFree.of_bodySF (plainFor_of_name pn_java_lang_Number) hisR ?_
  intro p e s m args below meth c s₁ Bd hml0 hP hK
  obtain ⟨rfl, hZ, hh⟩ := hP
  have hx := Bd.exec
  have hby := Bd.bytes
  have hml : c.maxLocals = 1 := hml0
  have hown : s.vm.findClass "java/lang/Number" = some m.cls := findClass_of_methodNamed Bd.named
  have hnm := (name_of_methodNamed Bd.named Bd.method).1
  have hlk : meth.locks = false := BodyLoose.notSynchronized Bd
  have Y0 : own_S p l e ({ frames := 1, cells := 0, slots := 0, locals := 12 } : Room) s m #[(.ref a1)] below meth c n0 s₁ h0 0 0 := ⟨[], Stand.of_body Bd, Fr.nil n0, by rw [← hh, Bd.state]; rfl, Z0⟩
  refine (?_ : own_Fin p e below _ _)
  refine own_st (fun t k => castTop (ef_14_R m a1) k) ?_
  refine own_aloadN Y0 hx (pc' := 1) (hb hby d14_0) rfl rfl rfl ?_
  refine own_initO Y0 hx (pc' := 4) (W := 0) hZ hown (own_w hw 87 rfl) (own_w hw 18 rfl) (own_w hw 19 rfl) (hb hby d14_1) rfl (by rw [hml]; rfl) (by decide) rfl (by decide) (fun T1 Y1 => ?_)
  exact own_ret0 Y1 hx hlk Bd.returns (hb hby d14_4) ⟨rfl, rfl⟩ (by decide) (by decide)
theorem d13_4 : decode jdk_33_method_23_code 4 = .ok (.aload_n 0, 1) := by decide +kernel
theorem d13_5 : decode jdk_33_method_23_code 5 = .ok (.iload_n 1, 1) := by decide +kernel
theorem d13_6 : decode jdk_33_method_23_code 6 = .ok (.putfield 205, 3) := by decide +kernel
theorem d13_9 : decode jdk_33_method_23_code 9 = .ok (.return_, 1) := by decide +kernel
theorem ef_13_RI (m : MethodId) (x0 : Addr) (x1 : Int32) : entryFrame m #[(.ref x0), (.int x1)] 2 = mkF m 0 #[.val (.ref x0), .val (.int x1)] [] := by first | (simp [entryFrame, mkF, argsToLocals, Value.category]; done) | rfl
theorem pn_java_lang_Integer : plainName "java/lang/Integer" = true := by first | (simp [plainName, overriddenIn]; done) | decide +kernel
def P13_14 (Z : State) (a1 : Addr) (i2 : Int32) (h0 : Heap) (h : Heap) : Prop := own_Kp h0 h [(a1, Jvm.RoadKit.slotOf Z zs9 "value" "I")] ∧ Fld Z h a1 zs9 "value" "I" (.int i2)
theorem P13_14_sz {Z : State} {a1 : Addr} {i2 : Int32} {h0 : Heap} : ∀ v h', (own_R none (P13_14 Z a1 i2 h0)) v h' → Array.size h0 ≤ Array.size h' := by
  intro v h' q
  obtain ⟨-, K, -⟩ := q
  exact K.1
set_option maxRecDepth 65536 in
set_option maxHeartbeats 40000000 in
theorem rm13_14 (l : Launch) (Z : State) (a0 : Array Value) (hw : ∀ d ∈ tables_1, d.before a0 Z = true) (ws : List Jvm.Cond) (a1 : Addr) (i2 : Int32) (h0 : Heap) (n0 : Nat) (Z0 : n0 ≤ Array.size h0) (P0 : Fld Z h0 a1 zs9 "value" "I" (.int (0 : Int32))) (P1 : Exa Z h0 a1 zs9) (P2 : n0 ≤ a1) :
    MetFree l (⟨zs9, "<init>", "(I)V"⟩ : MethodName) (head1 (Jvm.Cond.code (⟨zs9, "<init>", "(I)V"⟩ : MethodName) jdk_33_method_23_code 2 none :: ws) ({ frames := 2, cells := 0, slots := 0, locals := 24 } : Room)) (fun a U => a = #[(.ref a1), (.int i2)] ∧ Z.Warmed39 U.vm ∧ U.heap = h0) (fun _ _ _ _ _ => True) (fun _ U o U' => ∃ v L, o = .returned v ∧ own_QQ n0 (own_R none (P13_14 Z a1 i2 h0)) v U'.heap L ∧ FrameEnd U o U' L ({ frames := 2, cells := 0, slots := 0, locals := 24 } : Room).cells ({ frames := 2, cells := 0, slots := 0, locals := 24 } : Room).slots) := by
  refine MetFree.of_bodySF (plainFor_of_name pn_java_lang_Integer) hisR ?_
  intro p e s m args below meth c s₁ Bd hml0 hP hK
  obtain ⟨rfl, hZ, hh⟩ := hP
  have hx := Bd.exec
  have hby := Bd.bytes
  have hml : c.maxLocals = 2 := hml0
  have hown : s.vm.findClass zs9 = some m.cls := findClass_of_methodNamed Bd.named
  have hnm := (name_of_methodNamed Bd.named Bd.method).1
  have hlk : meth.locks = false := BodyLoose.notSynchronized Bd
  have Y0 : own_S p l e ({ frames := 2, cells := 0, slots := 0, locals := 24 } : Room) s m #[(.ref a1), (.int i2)] below meth c n0 s₁ h0 0 0 := ⟨[], Stand.of_body Bd, Fr.nil n0, by rw [← hh, Bd.state]; rfl, Z0⟩
  refine (?_ : own_Fin p e below _ _)
  refine own_st (fun t k => castTop (ef_13_RI m a1 i2) k) ?_
  refine own_aloadN Y0 hx (pc' := 1) (hb hby d13_0) rfl rfl rfl ?_
  refine own_special Y0 hx (pc' := 4) (W := 0) (cl' := 0) (sl' := 0) (as' := []) (S' := []) (a := a1) rfl hZ hown (own_w hw 81 rfl) (own_w hw 82 rfl) (own_w hw 85 rfl) (own_w hw 86 rfl) (by decide) (rm14_13 l Z a0 hw [] a1 h0 n0 (own_sz Y0)) (hb hby d13_1) rfl (by rw [hml]; rfl) rfl (lenOf pd___V rfl) rfl (by decide) (by decide) rfl rfl (by decide) (by decide) own_Same.sz (own_fixS (S2 := []) rfl (fun T1 Y1 => ?_))
  refine own_aloadN Y1 hx (pc' := 5) (hb hby d13_4) rfl rfl rfl ?_
  refine own_iloadN Y1 hx (pc' := 6) (hb hby d13_5) rfl rfl ?_
  refine own_putF Y1 hx (pc' := 9) hZ hown (host := "") (Or.inl (own_w hw 74 rfl)) Via.refl P0 P1 (Or.inr ⟨(own_w hw 75 rfl), rfl, hnm⟩) (own_w hw 77 rfl) (ty := .int) (by decide) rfl rfl P2 (hb hby d13_6) rfl (fun T2 h2 Y2 K2 F2 => ?_)
  have KC3 : own_Kp h0 h2 [(a1, Jvm.RoadKit.slotOf Z zs9 "value" "I")] := ((own_Kp.refl h0 [(a1, Jvm.RoadKit.slotOf Z zs9 "value" "I")]).trans K2 (own_allS (Or.inl (List.mem_of_getElem? (i := 0) rfl)) own_all0))
  exact own_ret0 Y2 hx hlk Bd.returns (hb hby d13_9) ⟨rfl, KC3, F2⟩ (by decide) (by decide)
theorem d1_31 : decode jdk_33_method_22_code 31 = .ok (.areturn, 1) := by decide +kernel
theorem d1_6 : decode jdk_33_method_22_code 6 = .ok (.iload_n 0, 1) := by decide +kernel
theorem d1_7 : decode jdk_33_method_22_code 7 = .ok (.getstatic 191, 3) := by decide +kernel
theorem d1_10 : decode jdk_33_method_22_code 10 = .ok (.if_icmp .gt 13, 3) := by decide +kernel
theorem d1_13 : decode jdk_33_method_22_code 13 = .ok (.getstatic 195, 3) := by decide +kernel
theorem d1_16 : decode jdk_33_method_22_code 16 = .ok (.iload_n 0, 1) := by decide +kernel
theorem d1_17 : decode jdk_33_method_22_code 17 = .ok (.sipush 128, 3) := by decide +kernel
theorem d1_20 : decode jdk_33_method_22_code 20 = .ok (.iadd, 1) := by decide +kernel
theorem d1_21 : decode jdk_33_method_22_code 21 = .ok (.aaload, 1) := by decide +kernel
theorem d1_22 : decode jdk_33_method_22_code 22 = .ok (.areturn, 1) := by decide +kernel
theorem ef_1_I (m : MethodId) (x0 : Int32) : entryFrame m #[(.int x0)] 1 = mkF m 0 #[.val (.int x0)] [] := by first | (simp [entryFrame, mkF, argsToLocals, Value.category]; done) | rfl
set_option maxRecDepth 65536 in
set_option maxHeartbeats 40000000 in
theorem rm1_15 (l : Launch) (Z : State) (a0 : Array Value) (hw : ∀ d ∈ tables_1, d.before a0 Z = true) (ws : List Jvm.Cond) (i1 : Int32) (a2 : Addr) (h0 : Heap) (n0 : Nat) (Z0 : n0 ≤ Array.size h0) (P0 : Sta Z h0 zs3 "high" "I" (.int (127 : Int32))) (P1 : Sta Z h0 zs3 "cache" "[Ljava/lang/Integer;" (.ref a2)) (P2 : own_Cache Z h0 a2) :
    MetFree l (⟨zs9, "valueOf", "(I)Ljava/lang/Integer;"⟩ : MethodName) (head1 (Jvm.Cond.code (⟨zs9, "valueOf", "(I)Ljava/lang/Integer;"⟩ : MethodName) jdk_33_method_22_code 1 (some (.object zs9)) :: ws) ({ frames := 3, cells := 1, slots := 1, locals := 38 } : Room)) (fun a U => a = #[(.int i1)] ∧ Z.Warmed39 U.vm ∧ U.heap = h0) (fun _ _ _ _ _ => True) (fun _ U o U' => ∃ v L, o = .returned v ∧ own_QQ n0 (own_PV Z i1 h0) v U'.heap L ∧ FrameEnd U o U' L ({ frames := 3, cells := 1, slots := 1, locals := 38 } : Room).cells ({ frames := 3, cells := 1, slots := 1, locals := 38 } : Room).slots) := by
  refine MetFree.of_bodySF (plainFor_of_name pn_java_lang_Integer) hisR ?_
  intro p e s m args below meth c s₁ Bd hml0 hP hK
  obtain ⟨rfl, hZ, hh⟩ := hP
  have hx := Bd.exec
  have hby := Bd.bytes
  have hml : c.maxLocals = 1 := hml0
  have hown : s.vm.findClass zs9 = some m.cls := findClass_of_methodNamed Bd.named
  have hnm := (name_of_methodNamed Bd.named Bd.method).1
  have hlk : meth.locks = false := BodyLoose.notSynchronized Bd
  have Y0 : own_S p l e ({ frames := 3, cells := 1, slots := 1, locals := 38 } : Room) s m #[(.int i1)] below meth c n0 s₁ h0 0 0 := ⟨[], Stand.of_body Bd, Fr.nil n0, by rw [← hh, Bd.state]; rfl, Z0⟩
  refine (?_ : own_Fin p e below _ _)
  refine own_st (fun t k => castTop (ef_1_I m i1) k) ?_
  refine own_iloadN Y0 hx (pc' := 1) (hb hby d1_0) rfl rfl ?_
  refine own_bipush Y0 hx (pc' := 3) (x := (-128 : Int32)) (hb hby d1_1) rfl (by decide) ?_
  by_cases qF1 : i1 < (-128 : Int32)
  ·
    refine own_icmpYes Y0 hx (pc' := 23) (hb hby d1_3) (tlt qF1).1 (by decide) (by decide) ?_
    refine own_new Y0 hx (pc' := 26) (cl' := 1) (sl' := 1) hZ hown (own_w hw 76 rfl) (own_w hw 77 rfl) (own_w hw 3 rfl) (hb hby d1_23) rfl rfl rfl (by decide) (by decide) (fun T2 h2 b2 Y2 K2 le2 E2 D2 => ?_)
    refine own_dup Y2 hx (pc' := 27) (hb hby d1_26) rfl rfl ?_
    refine own_iloadN Y2 hx (pc' := 28) (hb hby d1_27) rfl rfl ?_
    refine own_special Y2 hx (pc' := 31) (W := 1) (cl' := 1) (sl' := 1) (as' := [(.int i1)]) (S' := [(.ref b2)]) (a := b2) rfl hZ hown (own_w hw 78 rfl) (own_w hw 79 rfl) (own_w hw 3 rfl) (own_w hw 80 rfl) (by decide) (rm13_14 l Z a0 hw [] b2 i1 h2 n0 (own_sz Y2) (D2 (Or.inr (own_w hw 75 rfl)) (ty := .int) (by decide)) E2 (Nat.le_trans Z0 le2)) (hb hby d1_28) rfl (by rw [hml]; rfl) rfl (lenOf pd__I_V rfl) rfl (by decide) (by decide) rfl rfl (by decide) (by decide) P13_14_sz (own_fixR (S2 := [(.ref b2)]) rfl (fun T3 h3 Y3 R3 => ?_))
    obtain ⟨K3, G3_0⟩ := R3
    have KC4 : own_Kp h0 h3 [] := (((own_Kp.refl h0 []).trans K2 own_all0).trans K3 (own_allS (Or.inr le2) own_all0))
    have F5 := (own_E E2 K3)
    exact own_retA Y3 hx hlk Bd.returns rfl rfl rfl (hb hby d1_31) ⟨b2, rfl, KC4, F5, G3_0⟩ (by decide) (by decide)
  ·
    refine own_icmpNo Y0 hx (pc' := 6) (hb hby d1_3) rfl (flt qF1).1 ?_
    refine own_iloadN Y0 hx (pc' := 7) (hb hby d1_6) rfl rfl ?_
    refine own_getS Y0 hx (pc' := 10) (v := (.int (127 : Int32))) hZ hown (host := "") (Or.inl (own_w hw 5 rfl)) Via.refl P0 (hb hby d1_7) rfl (fun T6 Y6 => ?_)
    by_cases qF7 : (127 : Int32) < i1
    ·
      refine own_icmpYes Y6 hx (pc' := 23) (hb hby d1_10) (tlt qF7).2.2.1 (by decide) (by decide) ?_
      refine own_new Y6 hx (pc' := 26) (cl' := 1) (sl' := 1) hZ hown (own_w hw 76 rfl) (own_w hw 77 rfl) (own_w hw 3 rfl) (hb hby d1_23) rfl rfl rfl (by decide) (by decide) (fun T8 h8 b8 Y8 K8 le8 E8 D8 => ?_)
      refine own_dup Y8 hx (pc' := 27) (hb hby d1_26) rfl rfl ?_
      refine own_iloadN Y8 hx (pc' := 28) (hb hby d1_27) rfl rfl ?_
      refine own_special Y8 hx (pc' := 31) (W := 1) (cl' := 1) (sl' := 1) (as' := [(.int i1)]) (S' := [(.ref b8)]) (a := b8) rfl hZ hown (own_w hw 78 rfl) (own_w hw 79 rfl) (own_w hw 3 rfl) (own_w hw 80 rfl) (by decide) (rm13_14 l Z a0 hw [] b8 i1 h8 n0 (own_sz Y8) (D8 (Or.inr (own_w hw 75 rfl)) (ty := .int) (by decide)) E8 (Nat.le_trans Z0 le8)) (hb hby d1_28) rfl (by rw [hml]; rfl) rfl (lenOf pd__I_V rfl) rfl (by decide) (by decide) rfl rfl (by decide) (by decide) P13_14_sz (own_fixR (S2 := [(.ref b8)]) rfl (fun T9 h9 Y9 R9 => ?_))
      obtain ⟨K9, G9_0⟩ := R9
      have KC10 : own_Kp h0 h9 [] := (((own_Kp.refl h0 []).trans K8 own_all0).trans K9 (own_allS (Or.inr le8) own_all0))
      have F11 := (own_E E8 K9)
      exact own_retA Y9 hx hlk Bd.returns rfl rfl rfl (hb hby d1_31) ⟨b8, rfl, KC10, F11, G9_0⟩ (by decide) (by decide)
    ·
      refine own_icmpNo Y6 hx (pc' := 13) (hb hby d1_10) rfl (flt qF7).2.2.1 ?_
      refine own_getS Y6 hx (pc' := 16) (v := (.ref a2)) hZ hown (host := "") (Or.inl (own_w hw 7 rfl)) Via.refl P1 (hb hby d1_13) rfl (fun T12 Y12 => ?_)
      refine own_iloadN Y12 hx (pc' := 17) (hb hby d1_16) rfl rfl ?_
      refine own_sipush Y12 hx (pc' := 20) (x := (128 : Int32)) (hb hby d1_17) rfl (by decide) ?_
      refine own_iadd Y12 hx (pc' := 21) (hb hby d1_20) rfl (z := (i1 + (128 : Int32))) rfl ?_
      obtain ⟨cl13, A13, hall13⟩ := P2
      obtain ⟨a_13, i13, j13, E13, F13⟩ := hall13 i1 qF1 qF7
      refine own_aaldC Y12 hx (pc' := 22) (v := .ref a_13) hZ A13 i13 j13 rfl (hb hby d1_21) rfl ?_
      exact own_retA Y12 hx hlk Bd.returns rfl rfl rfl (hb hby d1_22) ⟨a_13, rfl, (own_Kp.refl h0 []), E13, F13⟩ (by decide) (by decide)
theorem pd__I_Ljava_lang_Integer_ : parseMethodDescriptor "(I)Ljava/lang/Integer;" = some ⟨[.int], some (.object "java/lang/Integer")⟩ := by decide +kernel
theorem ef_0_IIIIII (m : MethodId) (x0 : Int32) (x1 : Int32) (x2 : Int32) (x3 : Int32) (x4 : Int32) (x5 : Int32) : entryFrame m #[(.int x0), (.int x1), (.int x2), (.int x3), (.int x4), (.int x5)] maxLocals = mkF m 0 #[.val (.int x0), .val (.int x1), .val (.int x2), .val (.int x3), .val (.int x4), .val (.int x5), .unset, .unset, .unset, .unset, .unset, .unset, .unset, .unset, .unset, .unset, .unset, .unset, .unset, .unset, .unset] [] := by first | (simp [entryFrame, mkF, argsToLocals, Value.category, maxLocals]; done) | rfl
set_option maxRecDepth 65536 in
set_option maxHeartbeats 40000000 in
theorem rm0_c10 (l : Launch) (Z : State) (a0 : Array Value) (hw : ∀ d ∈ tables_1, d.before a0 Z = true) (ws : List Jvm.Cond) (w_NULL_KEY : Addr) (w_cache : Addr) (p0 : Int32) (p1 : Int32) (p2 : Int32) (p3 : Int32) (p4 : Int32) (p5 : Int32) (h0 : Heap) (n0 : Nat) (Z0 : n0 ≤ Array.size h0) (PN : own_Pins Z h0 w_NULL_KEY w_cache) (q0 : ((p3 &&& (2147483647 : Int32)) % (3 : Int32)) = (0 : Int32)) (q1 : ((p4 &&& (2147483647 : Int32)) % (1 : Int32)) = (0 : Int32)) :
    MetFree l x (head1 (Jvm.Cond.code x code maxLocals ret :: ws) room_1) (fun a U => a = #[(.int p0), (.int p1), (.int p2), (.int p3), (.int p4), (.int p5)] ∧ Z.Warmed39 U.vm ∧ U.heap = h0) (fun _ _ _ _ _ => True) (fun _ U o U' => ∃ v L, o = .returned v ∧ own_QQ n0 (own_R (some (.int (1 : Int32))) (fun _ => True)) v U'.heap L ∧ FrameEnd U o U' L room_1.cells room_1.slots) := by
  refine MetFree.of_bodySF (plainFor_of_name pn_com_example_napkintree_napkintree_balancing_NodeRemoveEntryPinLaw) hisR ?_
  intro p e s m args below meth c s₁ Bd hml0 hP hK
  obtain ⟨rfl, hZ, hh⟩ := hP
  have hx := Bd.exec
  have hby := Bd.bytes
  have hml : c.maxLocals = 21 := hml0
  have hown : s.vm.findClass zs7 = some m.cls := findClass_of_methodNamed Bd.named
  have hnm := (name_of_methodNamed Bd.named Bd.method).1
  have hlk : meth.locks = false := BodyLoose.notSynchronized Bd
  have Y0 : own_S p l e room_1 s m #[(.int p0), (.int p1), (.int p2), (.int p3), (.int p4), (.int p5)] below meth c n0 s₁ h0 0 0 := ⟨[], Stand.of_body Bd, Fr.nil n0, by rw [← hh, Bd.state]; rfl, Z0⟩
  obtain ⟨S_NULL_KEY, E_NULL_KEY, S_high, S_cache, H_cache⟩ := PN
  refine (?_ : own_Fin p e below _ _)
  refine own_st (fun t k => castTop (ef_0_IIIIII m p0 p1 p2 p3 p4 p5) k) ?_
  show own_Fin p e below (own_KL s n0) _
  refine own_iloadN Y0 hx (pc' := 1) (hb hby at_0) rfl rfl ?_
  refine own_ldcI Y0 hx (pc' := 3) hZ hown (own_w hw 0 rfl) (hb hby at_1) rfl ?_
  refine own_iand Y0 hx (pc' := 4) (hb hby at_3) rfl (z := (p3 &&& (2147483647 : Int32))) rfl ?_
  refine own_iconst Y0 hx (pc' := 5) (x := (3 : Int32)) (hb hby at_4) rfl (by decide) ?_
  refine own_irem Y0 hx (pc' := 6) (hb hby at_5) rfl (by decide) (z := (0 : Int32)) q0 ?_
  refine own_iconst Y0 hx (pc' := 7) (x := (1 : Int32)) (hb hby at_6) rfl (by decide) ?_
  refine own_iadd Y0 hx (pc' := 8) (hb hby at_7) rfl (z := (1 : Int32)) (by decide) ?_
  refine own_istore Y0 hx (pc' := 10) (Ls' := #[.val (.int p0), .val (.int p1), .val (.int p2), .val (.int p3), .val (.int p4), .val (.int p5), .val (.int (1 : Int32)), .unset, .unset, .unset, .unset, .unset, .unset, .unset, .unset, .unset, .unset, .unset, .unset, .unset, .unset]) (hb hby at_8) rfl rfl ?_
  refine own_iload Y0 hx (pc' := 12) (hb hby at_10) rfl rfl ?_
  refine own_ldcI Y0 hx (pc' := 14) hZ hown (own_w hw 0 rfl) (hb hby at_12) rfl ?_
  refine own_iand Y0 hx (pc' := 15) (hb hby at_14) rfl (z := (p4 &&& (2147483647 : Int32))) rfl ?_
  refine own_iload Y0 hx (pc' := 17) (hb hby at_15) rfl rfl ?_
  refine own_irem Y0 hx (pc' := 18) (hb hby at_17) rfl (by decide) (z := (0 : Int32)) q1 ?_
  refine own_istore Y0 hx (pc' := 20) (Ls' := #[.val (.int p0), .val (.int p1), .val (.int p2), .val (.int p3), .val (.int p4), .val (.int p5), .val (.int (1 : Int32)), .val (.int (0 : Int32)), .unset, .unset, .unset, .unset, .unset, .unset, .unset, .unset, .unset, .unset, .unset, .unset, .unset]) (hb hby at_18) rfl rfl ?_
  refine own_iload Y0 hx (pc' := 22) (hb hby at_20) rfl rfl ?_
  refine own_iconst Y0 hx (pc' := 23) (x := (1 : Int32)) (hb hby at_22) rfl (by decide) ?_
  refine own_iand Y0 hx (pc' := 24) (hb hby at_23) rfl (z := (p5 &&& (1 : Int32))) rfl ?_
  have J35 : ∀ (T' : State) (h' : Heap) (k0 : Value), own_S p l e room_1 s m #[(.int p0), (.int p1), (.int p2), (.int p3), (.int p4), (.int p5)] below meth c n0 T' h' 1 1 → own_Kp h0 h' [] → own_Box Z h' k0 → own_Fin p e below (own_KL s n0) (T'.setTop (mkF m 35 #[.val (.int p0), .val (.int p1), .val (.int p2), .val (.int p3), .val (.int p4), .val (.int p5), .val (.int (1 : Int32)), .val (.int (0 : Int32)), .unset, .unset, .unset, .unset, .unset, .unset, .unset, .unset, .unset, .unset, .unset, .unset, .unset] [k0])) := by
    intro T1 h1 k0 Y1 K1 B1
    have hr_k0 : k0.isRef = true := own_BoxRef B1
    refine own_astore Y1 hx (pc' := 37) (Ls' := #[.val (.int p0), .val (.int p1), .val (.int p2), .val (.int p3), .val (.int p4), .val (.int p5), .val (.int (1 : Int32)), .val (.int (0 : Int32)), .val k0, .unset, .unset, .unset, .unset, .unset, .unset, .unset, .unset, .unset, .unset, .unset, .unset]) (hb hby at_35) rfl hr_k0 (own_stV hr_k0 rfl (Or.inl rfl) rfl) ?_
    refine own_iload Y1 hx (pc' := 39) (hb hby at_37) rfl rfl ?_
    refine own_iconst Y1 hx (pc' := 40) (x := (2 : Int32)) (hb hby at_39) rfl (by decide) ?_
    refine own_iand Y1 hx (pc' := 41) (hb hby at_40) rfl (z := (p5 &&& (2 : Int32))) rfl ?_
    have J52 : ∀ (T' : State) (h' : Heap) (k1 : Value), own_S p l e room_1 s m #[(.int p0), (.int p1), (.int p2), (.int p3), (.int p4), (.int p5)] below meth c n0 T' h' 2 2 → own_Kp h1 h' [] → own_Box Z h' k1 → own_Fin p e below (own_KL s n0) (T'.setTop (mkF m 52 #[.val (.int p0), .val (.int p1), .val (.int p2), .val (.int p3), .val (.int p4), .val (.int p5), .val (.int (1 : Int32)), .val (.int (0 : Int32)), .val k0, .unset, .unset, .unset, .unset, .unset, .unset, .unset, .unset, .unset, .unset, .unset, .unset] [k1])) := by
      intro T2 h2 k1 Y2 K2 B2
      have hr_k1 : k1.isRef = true := own_BoxRef B2
      refine own_astore Y2 hx (pc' := 54) (Ls' := #[.val (.int p0), .val (.int p1), .val (.int p2), .val (.int p3), .val (.int p4), .val (.int p5), .val (.int (1 : Int32)), .val (.int (0 : Int32)), .val k0, .val k1, .unset, .unset, .unset, .unset, .unset, .unset, .unset, .unset, .unset, .unset, .unset]) (hb hby at_52) rfl hr_k1 (own_stV hr_k1 rfl (Or.inl rfl) rfl) ?_
      refine own_iload Y2 hx (pc' := 56) (hb hby at_54) rfl rfl ?_
      refine own_iconst Y2 hx (pc' := 57) (x := (4 : Int32)) (hb hby at_56) rfl (by decide) ?_
      refine own_iand Y2 hx (pc' := 58) (hb hby at_57) rfl (z := (p5 &&& (4 : Int32))) rfl ?_
      have J69 : ∀ (T' : State) (h' : Heap) (k2 : Value), own_S p l e room_1 s m #[(.int p0), (.int p1), (.int p2), (.int p3), (.int p4), (.int p5)] below meth c n0 T' h' 3 3 → own_Kp h2 h' [] → own_Box Z h' k2 → own_Fin p e below (own_KL s n0) (T'.setTop (mkF m 69 #[.val (.int p0), .val (.int p1), .val (.int p2), .val (.int p3), .val (.int p4), .val (.int p5), .val (.int (1 : Int32)), .val (.int (0 : Int32)), .val k0, .val k1, .unset, .unset, .unset, .unset, .unset, .unset, .unset, .unset, .unset, .unset, .unset] [k2])) := by
        intro T3 h3 k2 Y3 K3 B3
        have hr_k2 : k2.isRef = true := own_BoxRef B3
        refine own_astore Y3 hx (pc' := 71) (Ls' := #[.val (.int p0), .val (.int p1), .val (.int p2), .val (.int p3), .val (.int p4), .val (.int p5), .val (.int (1 : Int32)), .val (.int (0 : Int32)), .val k0, .val k1, .val k2, .unset, .unset, .unset, .unset, .unset, .unset, .unset, .unset, .unset, .unset]) (hb hby at_69) rfl hr_k2 (own_stV hr_k2 rfl (Or.inl rfl) rfl) ?_
        refine own_iload Y3 hx (pc' := 73) (hb hby at_71) rfl rfl ?_
        refine own_bipush Y3 hx (pc' := 75) (x := (8 : Int32)) (hb hby at_73) rfl (by decide) ?_
        refine own_iand Y3 hx (pc' := 76) (hb hby at_75) rfl (z := (p5 &&& (8 : Int32))) rfl ?_
        have J87 : ∀ (T' : State) (h' : Heap) (v0 : Value), own_S p l e room_1 s m #[(.int p0), (.int p1), (.int p2), (.int p3), (.int p4), (.int p5)] below meth c n0 T' h' 4 4 → own_Kp h3 h' [] → own_Box Z h' v0 → own_Fin p e below (own_KL s n0) (T'.setTop (mkF m 87 #[.val (.int p0), .val (.int p1), .val (.int p2), .val (.int p3), .val (.int p4), .val (.int p5), .val (.int (1 : Int32)), .val (.int (0 : Int32)), .val k0, .val k1, .val k2, .unset, .unset, .unset, .unset, .unset, .unset, .unset, .unset, .unset, .unset] [v0])) := by
          intro T4 h4 v0 Y4 K4 B4
          have hr_v0 : v0.isRef = true := own_BoxRef B4
          refine own_astore Y4 hx (pc' := 89) (Ls' := #[.val (.int p0), .val (.int p1), .val (.int p2), .val (.int p3), .val (.int p4), .val (.int p5), .val (.int (1 : Int32)), .val (.int (0 : Int32)), .val k0, .val k1, .val k2, .val v0, .unset, .unset, .unset, .unset, .unset, .unset, .unset, .unset, .unset]) (hb hby at_87) rfl hr_v0 (own_stV hr_v0 rfl (Or.inl rfl) rfl) ?_
          refine own_iload Y4 hx (pc' := 91) (hb hby at_89) rfl rfl ?_
          refine own_bipush Y4 hx (pc' := 93) (x := (16 : Int32)) (hb hby at_91) rfl (by decide) ?_
          refine own_iand Y4 hx (pc' := 94) (hb hby at_93) rfl (z := (p5 &&& (16 : Int32))) rfl ?_
          have J106 : ∀ (T' : State) (h' : Heap) (v1 : Value), own_S p l e room_1 s m #[(.int p0), (.int p1), (.int p2), (.int p3), (.int p4), (.int p5)] below meth c n0 T' h' 5 5 → own_Kp h4 h' [] → own_Box Z h' v1 → own_Fin p e below (own_KL s n0) (T'.setTop (mkF m 106 #[.val (.int p0), .val (.int p1), .val (.int p2), .val (.int p3), .val (.int p4), .val (.int p5), .val (.int (1 : Int32)), .val (.int (0 : Int32)), .val k0, .val k1, .val k2, .val v0, .unset, .unset, .unset, .unset, .unset, .unset, .unset, .unset, .unset] [v1])) := by
            intro T5 h5 v1 Y5 K5 B5
            have hr_v1 : v1.isRef = true := own_BoxRef B5
            refine own_astore Y5 hx (pc' := 108) (Ls' := #[.val (.int p0), .val (.int p1), .val (.int p2), .val (.int p3), .val (.int p4), .val (.int p5), .val (.int (1 : Int32)), .val (.int (0 : Int32)), .val k0, .val k1, .val k2, .val v0, .val v1, .unset, .unset, .unset, .unset, .unset, .unset, .unset, .unset]) (hb hby at_106) rfl hr_v1 (own_stV hr_v1 rfl (Or.inl rfl) rfl) ?_
            refine own_iload Y5 hx (pc' := 110) (hb hby at_108) rfl rfl ?_
            refine own_bipush Y5 hx (pc' := 112) (x := (32 : Int32)) (hb hby at_110) rfl (by decide) ?_
            refine own_iand Y5 hx (pc' := 113) (hb hby at_112) rfl (z := (p5 &&& (32 : Int32))) rfl ?_
            have J125 : ∀ (T' : State) (h' : Heap) (v2 : Value), own_S p l e room_1 s m #[(.int p0), (.int p1), (.int p2), (.int p3), (.int p4), (.int p5)] below meth c n0 T' h' 6 6 → own_Kp h5 h' [] → own_Box Z h' v2 → own_Fin p e below (own_KL s n0) (T'.setTop (mkF m 125 #[.val (.int p0), .val (.int p1), .val (.int p2), .val (.int p3), .val (.int p4), .val (.int p5), .val (.int (1 : Int32)), .val (.int (0 : Int32)), .val k0, .val k1, .val k2, .val v0, .val v1, .unset, .unset, .unset, .unset, .unset, .unset, .unset, .unset] [v2])) := by
              intro T6 h6 v2 Y6 K6 B6
              have hr_v2 : v2.isRef = true := own_BoxRef B6
              refine own_astore Y6 hx (pc' := 127) (Ls' := #[.val (.int p0), .val (.int p1), .val (.int p2), .val (.int p3), .val (.int p4), .val (.int p5), .val (.int (1 : Int32)), .val (.int (0 : Int32)), .val k0, .val k1, .val k2, .val v0, .val v1, .val v2, .unset, .unset, .unset, .unset, .unset, .unset, .unset]) (hb hby at_125) rfl hr_v2 (own_stV hr_v2 rfl (Or.inl rfl) rfl) ?_
              refine own_iconst Y6 hx (pc' := 128) (x := (4 : Int32)) (hb hby at_127) rfl (by decide) ?_
              have KC8 : own_Kp h0 h6 [] := (((((((own_Kp.refl h0 []).trans K1 own_all0).trans K2 own_all0).trans K3 own_all0).trans K4 own_all0).trans K5 own_all0).trans K6 own_all0)
              refine own_anew Y6 hx (pc' := 131) (cap := 4) (cl' := 7) (sl' := 10) (vs := [.null, .null, .null, .null]) hZ hown (own_w hw 8 rfl) (own_w hw 9 rfl) (hb hby at_128) rfl (by decide) (by decide) (by decide) rfl rfl (by decide) (by decide) rfl (fun T7 h7 b7 k7 Y7 K7 le7 V7 O7 => ?_)
              have sz_b7 : Array.size h0 ≤ b7 := Nat.le_trans KC8.1 le7
              refine own_astore Y7 hx (pc' := 133) (Ls' := #[.val (.int p0), .val (.int p1), .val (.int p2), .val (.int p3), .val (.int p4), .val (.int p5), .val (.int (1 : Int32)), .val (.int (0 : Int32)), .val k0, .val k1, .val k2, .val v0, .val v1, .val v2, .val (.ref b7), .unset, .unset, .unset, .unset, .unset, .unset]) (hb hby at_131) rfl rfl rfl ?_
              refine own_iconst Y7 hx (pc' := 134) (x := (4 : Int32)) (hb hby at_133) rfl (by decide) ?_
              have KC10 : own_Kp h0 h7 [] := (KC8.trans K7 own_all0)
              refine own_anew Y7 hx (pc' := 137) (cap := 4) (cl' := 8) (sl' := 14) (vs := [.null, .null, .null, .null]) hZ hown (own_w hw 8 rfl) (own_w hw 9 rfl) (hb hby at_134) rfl (by decide) (by decide) (by decide) rfl rfl (by decide) (by decide) rfl (fun T9 h9 b9 k9 Y9 K9 le9 V9 O9 => ?_)
              have sz_b9 : Array.size h0 ≤ b9 := Nat.le_trans KC10.1 le9
              refine own_astore Y9 hx (pc' := 139) (Ls' := #[.val (.int p0), .val (.int p1), .val (.int p2), .val (.int p3), .val (.int p4), .val (.int p5), .val (.int (1 : Int32)), .val (.int (0 : Int32)), .val k0, .val k1, .val k2, .val v0, .val v1, .val v2, .val (.ref b7), .val (.ref b9), .unset, .unset, .unset, .unset, .unset]) (hb hby at_137) rfl rfl rfl ?_
              refine own_aload Y9 hx (pc' := 141) (hb hby at_139) rfl rfl rfl ?_
              refine own_iconst Y9 hx (pc' := 142) (x := (0 : Int32)) (hb hby at_141) rfl (by decide) ?_
              refine own_aload Y9 hx (pc' := 144) (hb hby at_142) rfl rfl hr_k0 ?_
              have F12 := (own_A V7 K9 own_out0)
              have F13 := (own_B (own_B (own_B (own_B (own_B (own_B (own_B B1 K2 own_off0) K3 own_off0) K4 own_off0) K5 own_off0) K6 own_off0) K7 own_off0) K9 own_off0)
              refine own_aast Y9 hx (pc' := 145) (i := 0) (vs' := [k0, .null, .null, .null]) hZ F12 (by decide) rfl (by show 0 < 4; decide) rfl (fun _ A q => own_stoB A q O7 F13) (own_fitR rfl hr_k0) (Nat.le_trans Z0 sz_b7) rfl (hb hby at_144) rfl (fun T11 h11 Y11 K11 V11 => ?_)
              refine own_aload Y11 hx (pc' := 147) (hb hby at_145) rfl rfl rfl ?_
              refine own_iconst Y11 hx (pc' := 148) (x := (0 : Int32)) (hb hby at_147) rfl (by decide) ?_
              refine own_aload Y11 hx (pc' := 150) (hb hby at_148) rfl rfl hr_v0 ?_
              have D15 : b7 ≠ b9 := (Nat.ne_of_lt (Nat.lt_of_lt_of_le V7.lt le9))
              have F16 := (own_A V9 K11 (own_out (Ne.symm D15) own_out0))
              have F17 := (own_B (own_B B4 K5 own_off0) K6 own_off0)
              have O18 := (own_offN F17 le7)
              have F19 := (own_B (own_B (own_B (own_B (own_B B4 K5 own_off0) K6 own_off0) K7 own_off0) K9 own_off0) K11 (own_offS O18 own_off0))
              refine own_aast Y11 hx (pc' := 151) (i := 0) (vs' := [v0, .null, .null, .null]) hZ F16 (by decide) rfl (by show 0 < 4; decide) rfl (fun _ A q => own_stoB A q O9 F19) (own_fitR rfl hr_v0) (Nat.le_trans Z0 sz_b9) rfl (hb hby at_150) rfl (fun T14 h14 Y14 K14 V14 => ?_)
              refine own_iload Y14 hx (pc' := 153) (hb hby at_151) rfl rfl ?_
              refine own_iconst Y14 hx (pc' := 154) (x := (2 : Int32)) (hb hby at_153) rfl (by decide) ?_
              refine own_icmpYes Y14 hx (pc' := 169) (hb hby at_154) (by decide) (by decide) (by decide) ?_
              refine own_iload Y14 hx (pc' := 171) (hb hby at_169) rfl rfl ?_
              refine own_iconst Y14 hx (pc' := 172) (x := (3 : Int32)) (hb hby at_171) rfl (by decide) ?_
              refine own_icmpYes Y14 hx (pc' := 187) (hb hby at_172) (by decide) (by decide) (by decide) ?_
              have KC21 : own_Kp h0 h14 [] := (((KC10.trans K9 own_all0).trans K11 (own_allS (Or.inr sz_b7) own_all0)).trans K14 (own_allS (Or.inr sz_b9) own_all0))
              refine own_new Y14 hx (pc' := 190) (cl' := 9) (sl' := 25) hZ hown (own_w hw 11 rfl) (own_w hw 12 rfl) (own_w hw 13 rfl) (hb hby at_187) rfl rfl rfl (by decide) (by decide) (fun T20 h20 b20 Y20 K20 le20 E20 D20 => ?_)
              have sz_b20 : Array.size h0 ≤ b20 := Nat.le_trans KC21.1 le20
              refine own_dup Y20 hx (pc' := 191) (hb hby at_190) rfl rfl ?_
              refine own_special Y20 hx (pc' := 194) (W := 1) (cl' := 9) (sl' := 25) (as' := []) (S' := [(.ref b20)]) (a := b20) rfl hZ hown (own_w hw 14 rfl) (own_w hw 15 rfl) (own_w hw 13 rfl) (own_w hw 16 rfl) (by decide) (rm2_1 l Z a0 hw [] b20 h20 n0 (own_sz Y20)) (hb hby at_191) rfl (by rw [hml]; rfl) rfl (lenOf pd___V rfl) rfl (by decide) (by decide) rfl rfl (by decide) (by decide) own_Same.sz (own_fixS (S2 := [(.ref b20)]) rfl (fun T22 Y22 => ?_))
              refine own_astore Y22 hx (pc' := 196) (Ls' := #[.val (.int p0), .val (.int p1), .val (.int p2), .val (.int p3), .val (.int p4), .val (.int p5), .val (.int (1 : Int32)), .val (.int (0 : Int32)), .val k0, .val k1, .val k2, .val v0, .val v1, .val v2, .val (.ref b7), .val (.ref b9), .val (.ref b20), .unset, .unset, .unset, .unset]) (hb hby at_194) rfl rfl rfl ?_
              refine own_aload Y22 hx (pc' := 198) (hb hby at_196) rfl rfl rfl ?_
              refine own_iconst Y22 hx (pc' := 199) (x := (0 : Int32)) (hb hby at_198) rfl (by decide) ?_
              refine own_aload Y22 hx (pc' := 201) (hb hby at_199) rfl rfl hr_k0 ?_
              refine own_aload Y22 hx (pc' := 203) (hb hby at_201) rfl rfl hr_v0 ?_
              have F24 := (own_B (own_B (own_B (own_B (own_B B1 K2 own_off0) K3 own_off0) K4 own_off0) K5 own_off0) K6 own_off0)
              have O25 := (own_offN F24 le7)
              have F26 := (own_B F24 K7 own_off0)
              have O27 := (own_offN F26 le9)
              have F28 := (own_B (own_B (own_B F13 K11 (own_offS O25 own_off0)) K14 (own_offS O27 own_off0)) K20 own_off0)
              have F29 := (own_B F17 K7 own_off0)
              have O30 := (own_offN F29 le9)
              have F31 := (own_B (own_B F19 K14 (own_offS O30 own_off0)) K20 own_off0)
              have F32 := (own_St (own_St (own_St (own_St (own_St (own_St (own_St (own_St (own_St (own_St (own_St S_NULL_KEY K1 own_all0) K2 own_all0) K3 own_all0) K4 own_all0) K5 own_all0) K6 own_all0) K7 own_all0) K9 own_all0) K11 (own_allS (own_plainA F12) own_all0)) K14 (own_allS (own_plainA F16) own_all0)) K20 own_all0)
              have F33 := (own_E (own_E (own_E (own_E (own_E (own_E (own_E (own_E (own_E (own_E (own_E E_NULL_KEY K1) K2) K3) K4) K5) K6) K7) K9) K11) K14) K20)
              refine own_virtual Y22 hx (pc' := 206) (W := 0) (cl' := 9) (sl' := 25) (as' := [(.int (0 : Int32)), k0, v0]) (S' := []) (a := b20) hZ hown (own_w hw 20 rfl) (own_w hw 21 rfl) (notFace_of_selects (args := #[]) (mvT hZ (own_w hw 23 rfl))) (own_w hw 23 rfl) (own_w hw 22 rfl) (own_w hw 13 rfl) (own_w hw 24 rfl) (by decide) E20 (rm4_3 l Z a0 hw [] b20 k0 v0 w_NULL_KEY h20 n0 (own_sz Y22) F28 F31 F32 F33 (D20 (Or.inl (own_w hw 31 rfl)) (ty := (.object zs2)) (by decide)) E20 (Nat.le_trans Z0 sz_b20) (D20 (Or.inl (own_w hw 33 rfl)) (ty := (.object zs2)) (by decide))) (hb hby at_203) rfl (by rw [hml]; rfl) rfl (lenOf pd__ILjava_lang_Object_Ljava_lang_Object__V rfl) rfl (by decide) (by decide) rfl rfl (by decide) (by decide) P4_3_sz (own_fixR (S2 := []) rfl (fun T23 h23 Y23 R23 => ?_))
              obtain ⟨K23, G23_0, G23_1⟩ := R23
              refine own_iload Y23 hx (pc' := 208) (hb hby at_206) rfl rfl ?_
              refine own_iconst Y23 hx (pc' := 209) (x := (2 : Int32)) (hb hby at_208) rfl (by decide) ?_
              refine own_icmpYes Y23 hx (pc' := 222) (hb hby at_209) (by decide) (by decide) (by decide) ?_
              refine own_iload Y23 hx (pc' := 224) (hb hby at_222) rfl rfl ?_
              refine own_iconst Y23 hx (pc' := 225) (x := (3 : Int32)) (hb hby at_224) rfl (by decide) ?_
              refine own_icmpYes Y23 hx (pc' := 238) (hb hby at_225) (by decide) (by decide) (by decide) ?_
              refine own_aload Y23 hx (pc' := 240) (hb hby at_238) rfl rfl rfl ?_
              refine own_iload Y23 hx (pc' := 242) (hb hby at_240) rfl rfl ?_
              have F35 := (own_E E20 K23)
              have F36 := (own_F (v := .null) (D20 (Or.inl (own_w hw 35 rfl)) (ty := (.object zs2)) (by decide)) K23 (own_nr (sl_2 hw) (own_nr (sl_3 hw) own_nin0)))
              have F37 := (own_B (own_B F13 K11 (own_offS O25 own_off0)) K14 (own_offS O27 own_off0))
              have O38 := (own_offN F37 le20)
              have F39 := (own_B F28 K23 (own_offS O38 (own_offS O38 own_off0)))
              have F40 := (own_F (v := .null) (D20 (Or.inl (own_w hw 37 rfl)) (ty := (.object zs2)) (by decide)) K23 (own_nr (sl_4 hw) (own_nr (sl_5 hw) own_nin0)))
              have F41 := (own_B F19 K14 (own_offS O30 own_off0))
              have O42 := (own_offN F41 le20)
              have F43 := (own_B F31 K23 (own_offS O42 (own_offS O42 own_off0)))
              have F44 := (own_F (v := .null) (D20 (Or.inl (own_w hw 44 rfl)) (ty := (.object zs2)) (by decide)) K23 (own_nr (sl_6 hw) (own_nr (sl_7 hw) own_nin0)))
              have F45 := (own_F (v := .null) (D20 (Or.inl (own_w hw 46 rfl)) (ty := (.object zs2)) (by decide)) K23 (own_nr (sl_8 hw) (own_nr (sl_9 hw) own_nin0)))
              refine own_virtual Y23 hx (pc' := 245) (W := 0) (cl' := 9) (sl' := 25) (as' := [(.int (0 : Int32))]) (S' := []) (a := b20) hZ hown (own_w hw 38 rfl) (own_w hw 39 rfl) (notFace_of_selects (args := #[]) (mvT hZ (own_w hw 41 rfl))) (own_w hw 41 rfl) (own_w hw 40 rfl) (own_w hw 13 rfl) (own_w hw 42 rfl) (by decide) F35 (rm6_4 l Z a0 hw [] b20 w_NULL_KEY k0 v0 h23 n0 (own_sz Y23) F36 F39 G23_0 F35 (Nat.le_trans Z0 sz_b20) F40 F43 G23_1 F44 F45) (hb hby at_242) rfl (by rw [hml]; rfl) rfl (lenOf pd__I_V rfl) rfl (by decide) (by decide) rfl rfl (by decide) (by decide) P6_4_sz (own_fixR (S2 := []) rfl (fun T34 h34 Y34 R34 => ?_))
              obtain ⟨K34, G34_0, G34_1, G34_2, G34_3, G34_4, G34_5⟩ := R34
              refine own_iconst Y34 hx (pc' := 246) (x := (0 : Int32)) (hb hby at_245) rfl (by decide) ?_
              refine own_iload Y34 hx (pc' := 248) (hb hby at_246) rfl rfl ?_
              refine own_icmpYes Y34 hx (pc' := 255) (hb hby at_248) (by decide) (by decide) (by decide) ?_
              refine own_iconst Y34 hx (pc' := 256) (x := (1 : Int32)) (hb hby at_255) rfl (by decide) ?_
              refine own_istore Y34 hx (pc' := 258) (Ls' := #[.val (.int p0), .val (.int p1), .val (.int p2), .val (.int p3), .val (.int p4), .val (.int p5), .val (.int (1 : Int32)), .val (.int (0 : Int32)), .val k0, .val k1, .val k2, .val v0, .val v1, .val v2, .val (.ref b7), .val (.ref b9), .val (.ref b20), .val (.int (1 : Int32)), .unset, .unset, .unset]) (hb hby at_256) rfl rfl ?_
              refine own_iconst Y34 hx (pc' := 259) (x := (1 : Int32)) (hb hby at_258) rfl (by decide) ?_
              refine own_iload Y34 hx (pc' := 261) (hb hby at_259) rfl rfl ?_
              refine own_icmpYes Y34 hx (pc' := 268) (hb hby at_261) (by decide) (by decide) (by decide) ?_
              refine own_iconst Y34 hx (pc' := 269) (x := (2 : Int32)) (hb hby at_268) rfl (by decide) ?_
              refine own_istore Y34 hx (pc' := 271) (Ls' := #[.val (.int p0), .val (.int p1), .val (.int p2), .val (.int p3), .val (.int p4), .val (.int p5), .val (.int (1 : Int32)), .val (.int (0 : Int32)), .val k0, .val k1, .val k2, .val v0, .val v1, .val v2, .val (.ref b7), .val (.ref b9), .val (.ref b20), .val (.int (1 : Int32)), .val (.int (2 : Int32)), .unset, .unset]) (hb hby at_269) rfl rfl ?_
              refine own_iconst Y34 hx (pc' := 272) (x := (2 : Int32)) (hb hby at_271) rfl (by decide) ?_
              refine own_iload Y34 hx (pc' := 274) (hb hby at_272) rfl rfl ?_
              refine own_icmpYes Y34 hx (pc' := 281) (hb hby at_274) (by decide) (by decide) (by decide) ?_
              refine own_iconst Y34 hx (pc' := 282) (x := (3 : Int32)) (hb hby at_281) rfl (by decide) ?_
              refine own_istore Y34 hx (pc' := 284) (Ls' := #[.val (.int p0), .val (.int p1), .val (.int p2), .val (.int p3), .val (.int p4), .val (.int p5), .val (.int (1 : Int32)), .val (.int (0 : Int32)), .val k0, .val k1, .val k2, .val v0, .val v1, .val v2, .val (.ref b7), .val (.ref b9), .val (.ref b20), .val (.int (1 : Int32)), .val (.int (2 : Int32)), .val (.int (3 : Int32)), .unset]) (hb hby at_282) rfl rfl ?_
              refine own_aload Y34 hx (pc' := 286) (hb hby at_284) rfl rfl rfl ?_
              have F47 := (own_E F35 K34)
              refine own_virtual Y34 hx (pc' := 289) (W := 0) (cl' := 9) (sl' := 25) (as' := []) (S' := []) (a := b20) hZ hown (own_w hw 47 rfl) (own_w hw 48 rfl) (notFace_of_selects (args := #[]) (mvT hZ (own_w hw 50 rfl))) (own_w hw 50 rfl) (own_w hw 49 rfl) (own_w hw 13 rfl) (own_w hw 51 rfl) (by decide) F47 (rm7_5 l Z a0 hw [] b20 h34 n0 (own_sz Y34) G34_0) (hb hby at_286) rfl (by rw [hml]; rfl) rfl (lenOf pd___I rfl) rfl (by decide) (by decide) rfl rfl (by decide) (by decide) own_Same.sz (own_fixS (S2 := [(.int (0 : Int32))]) rfl (fun T46 Y46 => ?_))
              refine own_iload Y46 hx (pc' := 291) (hb hby at_289) rfl rfl ?_
              refine own_iconst Y46 hx (pc' := 292) (x := (1 : Int32)) (hb hby at_291) rfl (by decide) ?_
              refine own_isub Y46 hx (pc' := 293) (hb hby at_292) rfl (z := (0 : Int32)) (by decide) ?_
              refine own_icmpNo Y46 hx (pc' := 296) (hb hby at_293) rfl (by decide) ?_
              refine own_iconst Y46 hx (pc' := 297) (x := (1 : Int32)) (hb hby at_296) rfl (by decide) ?_
              refine own_goto Y46 hx (pc' := 301) (hb hby at_297) (by decide) (by decide) ?_
              refine own_istore Y46 hx (pc' := 303) (Ls' := #[.val (.int p0), .val (.int p1), .val (.int p2), .val (.int p3), .val (.int p4), .val (.int p5), .val (.int (1 : Int32)), .val (.int (0 : Int32)), .val k0, .val k1, .val k2, .val v0, .val v1, .val v2, .val (.ref b7), .val (.ref b9), .val (.ref b20), .val (.int (1 : Int32)), .val (.int (2 : Int32)), .val (.int (3 : Int32)), .val (.int (1 : Int32))]) (hb hby at_301) rfl rfl ?_
              refine own_iload Y46 hx (pc' := 305) (hb hby at_303) rfl rfl ?_
              refine own_ifNo Y46 hx (pc' := 308) (hb hby at_305) rfl (by decide) ?_
              refine own_aload Y46 hx (pc' := 310) (hb hby at_308) rfl rfl rfl ?_
              refine own_iconst Y46 hx (pc' := 311) (x := (0 : Int32)) (hb hby at_310) rfl (by decide) ?_
              have F49 := (own_St (own_St F32 K23 (own_allS (own_plain E20) (own_allS (own_plain E20) own_all0))) K34 (own_allS (own_plain F35) (own_allS (own_plain F35) (own_allS (own_plain F35) (own_allS (own_plain F35) (own_allS (own_plain F35) (own_allS (own_plain F35) own_all0)))))))
              refine own_virtual Y46 hx (pc' := 314) (W := 0) (cl' := 9) (sl' := 25) (as' := [(.int (0 : Int32))]) (S' := []) (a := b20) hZ hown (own_w hw 52 rfl) (own_w hw 53 rfl) (notFace_of_selects (args := #[]) (mvT hZ (own_w hw 55 rfl))) (own_w hw 55 rfl) (own_w hw 54 rfl) (own_w hw 13 rfl) (own_w hw 56 rfl) (by decide) F47 (rm8_7 l Z a0 hw [] b20 w_NULL_KEY h34 n0 (own_sz Y46) G34_0 F49) (hb hby at_311) rfl (by rw [hml]; rfl) rfl (lenOf pd__I_Ljava_lang_Object_ rfl) rfl (by decide) (by decide) rfl rfl (by decide) (by decide) own_Same.sz (own_fixS (S2 := [.null]) rfl (fun T48 Y48 => ?_))
              refine own_castNull Y48 hx (pc' := 317) (hb hby at_314) rfl ?_
              refine own_aload Y48 hx (pc' := 319) (hb hby at_317) rfl rfl rfl ?_
              refine own_iload Y48 hx (pc' := 321) (hb hby at_319) rfl rfl ?_
              have F51 := (own_A V11 K14 (own_out D15 own_out0))
              have D52 : b7 ≠ b20 := (Nat.ne_of_lt (Nat.lt_of_lt_of_le F51.lt le20))
              have F53 := (own_A (own_A (own_A (own_A V11 K14 (own_out D15 own_out0)) K20 own_out0) K23 (own_out D52 (own_out D52 own_out0))) K34 (own_out D52 (own_out D52 (own_out D52 (own_out D52 (own_out D52 (own_out D52 own_out0)))))))
              refine own_aald Y48 hx (pc' := 322) (v := .null) hZ F53 (by decide) rfl rfl (hb hby at_321) rfl ?_
              refine own_static Y48 hx (pc' := 325) (W := 0) (cl' := 9) (sl' := 25) (as' := [.null, .null]) (S' := []) hZ hown (own_w hw 60 rfl) (own_w hw 61 rfl) (own_w hw 62 rfl) (own_w hw 63 rfl) (by decide) (rm10_8 l Z a0 hw []  h34 n0 (own_sz Y48)) (hb hby at_322) rfl (by rw [hml]; rfl) rfl (lenOf pd__Ljava_lang_Integer_Ljava_lang_Integer__Z rfl) rfl (by decide) (by decide) rfl rfl (by decide) (by decide) own_Same.sz (own_fixS (S2 := [(.int (1 : Int32))]) rfl (fun T54 Y54 => ?_))
              refine own_ifNo Y54 hx (pc' := 328) (hb hby at_325) rfl (by decide) ?_
              refine own_iconst Y54 hx (pc' := 329) (x := (1 : Int32)) (hb hby at_328) rfl (by decide) ?_
              refine own_goto Y54 hx (pc' := 333) (hb hby at_329) (by decide) (by decide) ?_
              refine own_istore Y54 hx (pc' := 335) (Ls' := #[.val (.int p0), .val (.int p1), .val (.int p2), .val (.int p3), .val (.int p4), .val (.int p5), .val (.int (1 : Int32)), .val (.int (0 : Int32)), .val k0, .val k1, .val k2, .val v0, .val v1, .val v2, .val (.ref b7), .val (.ref b9), .val (.ref b20), .val (.int (1 : Int32)), .val (.int (2 : Int32)), .val (.int (3 : Int32)), .val (.int (1 : Int32))]) (hb hby at_333) rfl rfl ?_
              refine own_iload Y54 hx (pc' := 337) (hb hby at_335) rfl rfl ?_
              refine own_ifNo Y54 hx (pc' := 340) (hb hby at_337) rfl (by decide) ?_
              refine own_aload Y54 hx (pc' := 342) (hb hby at_340) rfl rfl rfl ?_
              refine own_iconst Y54 hx (pc' := 343) (x := (1 : Int32)) (hb hby at_342) rfl (by decide) ?_
              refine own_virtual Y54 hx (pc' := 346) (W := 0) (cl' := 9) (sl' := 25) (as' := [(.int (1 : Int32))]) (S' := []) (a := b20) hZ hown (own_w hw 52 rfl) (own_w hw 53 rfl) (notFace_of_selects (args := #[]) (mvT hZ (own_w hw 55 rfl))) (own_w hw 55 rfl) (own_w hw 54 rfl) (own_w hw 13 rfl) (own_w hw 56 rfl) (by decide) F47 (rm8_9 l Z a0 hw [] b20 w_NULL_KEY h34 n0 (own_sz Y54) G34_2 F49) (hb hby at_343) rfl (by rw [hml]; rfl) rfl (lenOf pd__I_Ljava_lang_Object_ rfl) rfl (by decide) (by decide) rfl rfl (by decide) (by decide) own_Same.sz (own_fixS (S2 := [.null]) rfl (fun T55 Y55 => ?_))
              refine own_castNull Y55 hx (pc' := 349) (hb hby at_346) rfl ?_
              refine own_aload Y55 hx (pc' := 351) (hb hby at_349) rfl rfl rfl ?_
              refine own_iload Y55 hx (pc' := 353) (hb hby at_351) rfl rfl ?_
              refine own_aald Y55 hx (pc' := 354) (v := .null) hZ F53 (by decide) rfl rfl (hb hby at_353) rfl ?_
              refine own_static Y55 hx (pc' := 357) (W := 0) (cl' := 9) (sl' := 25) (as' := [.null, .null]) (S' := []) hZ hown (own_w hw 60 rfl) (own_w hw 61 rfl) (own_w hw 62 rfl) (own_w hw 63 rfl) (by decide) (rm10_8 l Z a0 hw []  h34 n0 (own_sz Y55)) (hb hby at_354) rfl (by rw [hml]; rfl) rfl (lenOf pd__Ljava_lang_Integer_Ljava_lang_Integer__Z rfl) rfl (by decide) (by decide) rfl rfl (by decide) (by decide) own_Same.sz (own_fixS (S2 := [(.int (1 : Int32))]) rfl (fun T57 Y57 => ?_))
              refine own_ifNo Y57 hx (pc' := 360) (hb hby at_357) rfl (by decide) ?_
              refine own_iconst Y57 hx (pc' := 361) (x := (1 : Int32)) (hb hby at_360) rfl (by decide) ?_
              refine own_goto Y57 hx (pc' := 365) (hb hby at_361) (by decide) (by decide) ?_
              refine own_istore Y57 hx (pc' := 367) (Ls' := #[.val (.int p0), .val (.int p1), .val (.int p2), .val (.int p3), .val (.int p4), .val (.int p5), .val (.int (1 : Int32)), .val (.int (0 : Int32)), .val k0, .val k1, .val k2, .val v0, .val v1, .val v2, .val (.ref b7), .val (.ref b9), .val (.ref b20), .val (.int (1 : Int32)), .val (.int (2 : Int32)), .val (.int (3 : Int32)), .val (.int (1 : Int32))]) (hb hby at_365) rfl rfl ?_
              refine own_iload Y57 hx (pc' := 369) (hb hby at_367) rfl rfl ?_
              refine own_ifNo Y57 hx (pc' := 372) (hb hby at_369) rfl (by decide) ?_
              refine own_aload Y57 hx (pc' := 374) (hb hby at_372) rfl rfl rfl ?_
              refine own_iconst Y57 hx (pc' := 375) (x := (0 : Int32)) (hb hby at_374) rfl (by decide) ?_
              refine own_virtual Y57 hx (pc' := 378) (W := 0) (cl' := 9) (sl' := 25) (as' := [(.int (0 : Int32))]) (S' := []) (a := b20) hZ hown (own_w hw 64 rfl) (own_w hw 65 rfl) (notFace_of_selects (args := #[]) (mvT hZ (own_w hw 67 rfl))) (own_w hw 67 rfl) (own_w hw 66 rfl) (own_w hw 13 rfl) (own_w hw 68 rfl) (by decide) F47 (rm11_10 l Z a0 hw [] b20 h34 n0 (own_sz Y57) G34_1) (hb hby at_375) rfl (by rw [hml]; rfl) rfl (lenOf pd__I_Ljava_lang_Object_ rfl) rfl (by decide) (by decide) rfl rfl (by decide) (by decide) own_Same.sz (own_fixS (S2 := [.null]) rfl (fun T58 Y58 => ?_))
              refine own_castNull Y58 hx (pc' := 381) (hb hby at_378) rfl ?_
              refine own_aload Y58 hx (pc' := 383) (hb hby at_381) rfl rfl rfl ?_
              refine own_iload Y58 hx (pc' := 385) (hb hby at_383) rfl rfl ?_
              have D60 : b9 ≠ b20 := (Nat.ne_of_lt (Nat.lt_of_lt_of_le V14.lt le20))
              have F61 := (own_A (own_A (own_A V14 K20 own_out0) K23 (own_out D60 (own_out D60 own_out0))) K34 (own_out D60 (own_out D60 (own_out D60 (own_out D60 (own_out D60 (own_out D60 own_out0)))))))
              refine own_aald Y58 hx (pc' := 386) (v := .null) hZ F61 (by decide) rfl rfl (hb hby at_385) rfl ?_
              refine own_static Y58 hx (pc' := 389) (W := 0) (cl' := 9) (sl' := 25) (as' := [.null, .null]) (S' := []) hZ hown (own_w hw 60 rfl) (own_w hw 61 rfl) (own_w hw 62 rfl) (own_w hw 63 rfl) (by decide) (rm10_8 l Z a0 hw []  h34 n0 (own_sz Y58)) (hb hby at_386) rfl (by rw [hml]; rfl) rfl (lenOf pd__Ljava_lang_Integer_Ljava_lang_Integer__Z rfl) rfl (by decide) (by decide) rfl rfl (by decide) (by decide) own_Same.sz (own_fixS (S2 := [(.int (1 : Int32))]) rfl (fun T62 Y62 => ?_))
              refine own_ifNo Y62 hx (pc' := 392) (hb hby at_389) rfl (by decide) ?_
              refine own_iconst Y62 hx (pc' := 393) (x := (1 : Int32)) (hb hby at_392) rfl (by decide) ?_
              refine own_goto Y62 hx (pc' := 397) (hb hby at_393) (by decide) (by decide) ?_
              refine own_istore Y62 hx (pc' := 399) (Ls' := #[.val (.int p0), .val (.int p1), .val (.int p2), .val (.int p3), .val (.int p4), .val (.int p5), .val (.int (1 : Int32)), .val (.int (0 : Int32)), .val k0, .val k1, .val k2, .val v0, .val v1, .val v2, .val (.ref b7), .val (.ref b9), .val (.ref b20), .val (.int (1 : Int32)), .val (.int (2 : Int32)), .val (.int (3 : Int32)), .val (.int (1 : Int32))]) (hb hby at_397) rfl rfl ?_
              refine own_iload Y62 hx (pc' := 401) (hb hby at_399) rfl rfl ?_
              refine own_ifNo Y62 hx (pc' := 404) (hb hby at_401) rfl (by decide) ?_
              refine own_aload Y62 hx (pc' := 406) (hb hby at_404) rfl rfl rfl ?_
              refine own_iconst Y62 hx (pc' := 407) (x := (1 : Int32)) (hb hby at_406) rfl (by decide) ?_
              refine own_virtual Y62 hx (pc' := 410) (W := 0) (cl' := 9) (sl' := 25) (as' := [(.int (1 : Int32))]) (S' := []) (a := b20) hZ hown (own_w hw 64 rfl) (own_w hw 65 rfl) (notFace_of_selects (args := #[]) (mvT hZ (own_w hw 67 rfl))) (own_w hw 67 rfl) (own_w hw 66 rfl) (own_w hw 13 rfl) (own_w hw 68 rfl) (by decide) F47 (rm11_11 l Z a0 hw [] b20 h34 n0 (own_sz Y62) G34_3) (hb hby at_407) rfl (by rw [hml]; rfl) rfl (lenOf pd__I_Ljava_lang_Object_ rfl) rfl (by decide) (by decide) rfl rfl (by decide) (by decide) own_Same.sz (own_fixS (S2 := [.null]) rfl (fun T63 Y63 => ?_))
              refine own_castNull Y63 hx (pc' := 413) (hb hby at_410) rfl ?_
              refine own_aload Y63 hx (pc' := 415) (hb hby at_413) rfl rfl rfl ?_
              refine own_iload Y63 hx (pc' := 417) (hb hby at_415) rfl rfl ?_
              refine own_aald Y63 hx (pc' := 418) (v := .null) hZ F61 (by decide) rfl rfl (hb hby at_417) rfl ?_
              refine own_static Y63 hx (pc' := 421) (W := 0) (cl' := 9) (sl' := 25) (as' := [.null, .null]) (S' := []) hZ hown (own_w hw 60 rfl) (own_w hw 61 rfl) (own_w hw 62 rfl) (own_w hw 63 rfl) (by decide) (rm10_8 l Z a0 hw []  h34 n0 (own_sz Y63)) (hb hby at_418) rfl (by rw [hml]; rfl) rfl (lenOf pd__Ljava_lang_Integer_Ljava_lang_Integer__Z rfl) rfl (by decide) (by decide) rfl rfl (by decide) (by decide) own_Same.sz (own_fixS (S2 := [(.int (1 : Int32))]) rfl (fun T65 Y65 => ?_))
              refine own_ifNo Y65 hx (pc' := 424) (hb hby at_421) rfl (by decide) ?_
              refine own_iconst Y65 hx (pc' := 425) (x := (1 : Int32)) (hb hby at_424) rfl (by decide) ?_
              refine own_goto Y65 hx (pc' := 429) (hb hby at_425) (by decide) (by decide) ?_
              refine own_istore Y65 hx (pc' := 431) (Ls' := #[.val (.int p0), .val (.int p1), .val (.int p2), .val (.int p3), .val (.int p4), .val (.int p5), .val (.int (1 : Int32)), .val (.int (0 : Int32)), .val k0, .val k1, .val k2, .val v0, .val v1, .val v2, .val (.ref b7), .val (.ref b9), .val (.ref b20), .val (.int (1 : Int32)), .val (.int (2 : Int32)), .val (.int (3 : Int32)), .val (.int (1 : Int32))]) (hb hby at_429) rfl rfl ?_
              refine own_iload Y65 hx (pc' := 433) (hb hby at_431) rfl rfl ?_
              refine own_ifNo Y65 hx (pc' := 436) (hb hby at_433) rfl (by decide) ?_
              refine own_aload Y65 hx (pc' := 438) (hb hby at_436) rfl rfl rfl ?_
              refine own_iconst Y65 hx (pc' := 439) (x := (2 : Int32)) (hb hby at_438) rfl (by decide) ?_
              refine own_virtual Y65 hx (pc' := 442) (W := 0) (cl' := 9) (sl' := 25) (as' := [(.int (2 : Int32))]) (S' := []) (a := b20) hZ hown (own_w hw 64 rfl) (own_w hw 65 rfl) (notFace_of_selects (args := #[]) (mvT hZ (own_w hw 67 rfl))) (own_w hw 67 rfl) (own_w hw 66 rfl) (own_w hw 13 rfl) (own_w hw 68 rfl) (by decide) F47 (rm11_12 l Z a0 hw [] b20 h34 n0 (own_sz Y65) G34_5) (hb hby at_439) rfl (by rw [hml]; rfl) rfl (lenOf pd__I_Ljava_lang_Object_ rfl) rfl (by decide) (by decide) rfl rfl (by decide) (by decide) own_Same.sz (own_fixS (S2 := [.null]) rfl (fun T66 Y66 => ?_))
              refine own_castNull Y66 hx (pc' := 445) (hb hby at_442) rfl ?_
              refine own_aload Y66 hx (pc' := 447) (hb hby at_445) rfl rfl rfl ?_
              refine own_iload Y66 hx (pc' := 449) (hb hby at_447) rfl rfl ?_
              refine own_aald Y66 hx (pc' := 450) (v := .null) hZ F61 (by decide) rfl rfl (hb hby at_449) rfl ?_
              refine own_static Y66 hx (pc' := 453) (W := 0) (cl' := 9) (sl' := 25) (as' := [.null, .null]) (S' := []) hZ hown (own_w hw 60 rfl) (own_w hw 61 rfl) (own_w hw 62 rfl) (own_w hw 63 rfl) (by decide) (rm10_8 l Z a0 hw []  h34 n0 (own_sz Y66)) (hb hby at_450) rfl (by rw [hml]; rfl) rfl (lenOf pd__Ljava_lang_Integer_Ljava_lang_Integer__Z rfl) rfl (by decide) (by decide) rfl rfl (by decide) (by decide) own_Same.sz (own_fixS (S2 := [(.int (1 : Int32))]) rfl (fun T68 Y68 => ?_))
              refine own_ifNo Y68 hx (pc' := 456) (hb hby at_453) rfl (by decide) ?_
              refine own_iconst Y68 hx (pc' := 457) (x := (1 : Int32)) (hb hby at_456) rfl (by decide) ?_
              refine own_goto Y68 hx (pc' := 461) (hb hby at_457) (by decide) (by decide) ?_
              refine own_istore Y68 hx (pc' := 463) (Ls' := #[.val (.int p0), .val (.int p1), .val (.int p2), .val (.int p3), .val (.int p4), .val (.int p5), .val (.int (1 : Int32)), .val (.int (0 : Int32)), .val k0, .val k1, .val k2, .val v0, .val v1, .val v2, .val (.ref b7), .val (.ref b9), .val (.ref b20), .val (.int (1 : Int32)), .val (.int (2 : Int32)), .val (.int (3 : Int32)), .val (.int (1 : Int32))]) (hb hby at_461) rfl rfl ?_
              refine own_iload Y68 hx (pc' := 465) (hb hby at_463) rfl rfl ?_
              exact own_retN Y68 hx hlk Bd.returns rfl (by simp) (hb hby at_465) ⟨rfl, trivial⟩ (by decide) (by decide)
            by_cases qF69 : (p5 &&& (32 : Int32)) = (0 : Int32)
            ·
              refine own_ifYes Y5 hx (pc' := 120) (hb hby at_113) ((if0 _ _).trans (teq qF69).1) (by decide) (by decide) ?_
              refine own_bipush Y5 hx (pc' := 122) (x := (-3 : Int32)) (hb hby at_120) rfl (by decide) ?_
              have F71 := (own_St (own_St (own_St (own_St (own_St S_high K1 own_all0) K2 own_all0) K3 own_all0) K4 own_all0) K5 own_all0)
              have F72 := (own_St (own_St (own_St (own_St (own_St S_cache K1 own_all0) K2 own_all0) K3 own_all0) K4 own_all0) K5 own_all0)
              have F73 := (own_CacheK (own_CacheK (own_CacheK (own_CacheK (own_CacheK H_cache K1) K2) K3) K4) K5)
              refine own_static Y5 hx (pc' := 125) (W := 0) (cl' := 6) (sl' := 6) (as' := [(.int (-3 : Int32))]) (S' := []) hZ hown (own_w hw 1 rfl) (own_w hw 2 rfl) (own_w hw 3 rfl) (own_w hw 4 rfl) (by decide) (rm1_15 l Z a0 hw [] (-3 : Int32) w_cache h5 n0 (own_sz Y5) F71 F72 F73) (hb hby at_122) rfl (by rw [hml]; rfl) rfl (lenOf pd__I_Ljava_lang_Integer_ rfl) rfl (by decide) (by decide) rfl rfl (by decide) (by decide) own_PV_sz (fun T70 h70 v70 Y70 R70 => ?_)
              obtain ⟨b70_0, rfl, K70, E70, F70⟩ := R70
              show own_Fin p e below _ (T70.setTop (mkF m 125 #[.val (.int p0), .val (.int p1), .val (.int p2), .val (.int p3), .val (.int p4), .val (.int p5), .val (.int (1 : Int32)), .val (.int (0 : Int32)), .val k0, .val k1, .val k2, .val v0, .val v1, .unset, .unset, .unset, .unset, .unset, .unset, .unset, .unset] [(.ref b70_0)]))
              exact J125 _ _ _ Y70 K70 (Or.inr ⟨b70_0, _, rfl, E70, F70⟩)
            ·
              refine own_ifNo Y5 hx (pc' := 116) (hb hby at_113) rfl ((if0 _ _).trans (feq qF69).1) ?_
              refine own_aconstNull Y5 hx (pc' := 117) (hb hby at_116) rfl ?_
              refine own_goto Y5 hx (pc' := 125) (hb hby at_117) (by decide) (by decide) ?_
              exact J125 _ _ .null (own_more Y5 (by decide) (by decide)) (own_Kp.refl _ _) (Or.inl rfl)
          by_cases qF74 : (p5 &&& (16 : Int32)) = (0 : Int32)
          ·
            refine own_ifYes Y4 hx (pc' := 101) (hb hby at_94) ((if0 _ _).trans (teq qF74).1) (by decide) (by decide) ?_
            refine own_bipush Y4 hx (pc' := 103) (x := (-2 : Int32)) (hb hby at_101) rfl (by decide) ?_
            have F76 := (own_St (own_St (own_St (own_St S_high K1 own_all0) K2 own_all0) K3 own_all0) K4 own_all0)
            have F77 := (own_St (own_St (own_St (own_St S_cache K1 own_all0) K2 own_all0) K3 own_all0) K4 own_all0)
            have F78 := (own_CacheK (own_CacheK (own_CacheK (own_CacheK H_cache K1) K2) K3) K4)
            refine own_static Y4 hx (pc' := 106) (W := 0) (cl' := 5) (sl' := 5) (as' := [(.int (-2 : Int32))]) (S' := []) hZ hown (own_w hw 1 rfl) (own_w hw 2 rfl) (own_w hw 3 rfl) (own_w hw 4 rfl) (by decide) (rm1_15 l Z a0 hw [] (-2 : Int32) w_cache h4 n0 (own_sz Y4) F76 F77 F78) (hb hby at_103) rfl (by rw [hml]; rfl) rfl (lenOf pd__I_Ljava_lang_Integer_ rfl) rfl (by decide) (by decide) rfl rfl (by decide) (by decide) own_PV_sz (fun T75 h75 v75 Y75 R75 => ?_)
            obtain ⟨b75_0, rfl, K75, E75, F75⟩ := R75
            show own_Fin p e below _ (T75.setTop (mkF m 106 #[.val (.int p0), .val (.int p1), .val (.int p2), .val (.int p3), .val (.int p4), .val (.int p5), .val (.int (1 : Int32)), .val (.int (0 : Int32)), .val k0, .val k1, .val k2, .val v0, .unset, .unset, .unset, .unset, .unset, .unset, .unset, .unset, .unset] [(.ref b75_0)]))
            exact J106 _ _ _ Y75 K75 (Or.inr ⟨b75_0, _, rfl, E75, F75⟩)
          ·
            refine own_ifNo Y4 hx (pc' := 97) (hb hby at_94) rfl ((if0 _ _).trans (feq qF74).1) ?_
            refine own_aconstNull Y4 hx (pc' := 98) (hb hby at_97) rfl ?_
            refine own_goto Y4 hx (pc' := 106) (hb hby at_98) (by decide) (by decide) ?_
            exact J106 _ _ .null (own_more Y4 (by decide) (by decide)) (own_Kp.refl _ _) (Or.inl rfl)
        by_cases qF79 : (p5 &&& (8 : Int32)) = (0 : Int32)
        ·
          refine own_ifYes Y3 hx (pc' := 83) (hb hby at_76) ((if0 _ _).trans (teq qF79).1) (by decide) (by decide) ?_
          refine own_iconst Y3 hx (pc' := 84) (x := (-1 : Int32)) (hb hby at_83) rfl (by decide) ?_
          have F81 := (own_St (own_St (own_St S_high K1 own_all0) K2 own_all0) K3 own_all0)
          have F82 := (own_St (own_St (own_St S_cache K1 own_all0) K2 own_all0) K3 own_all0)
          have F83 := (own_CacheK (own_CacheK (own_CacheK H_cache K1) K2) K3)
          refine own_static Y3 hx (pc' := 87) (W := 0) (cl' := 4) (sl' := 4) (as' := [(.int (-1 : Int32))]) (S' := []) hZ hown (own_w hw 1 rfl) (own_w hw 2 rfl) (own_w hw 3 rfl) (own_w hw 4 rfl) (by decide) (rm1_15 l Z a0 hw [] (-1 : Int32) w_cache h3 n0 (own_sz Y3) F81 F82 F83) (hb hby at_84) rfl (by rw [hml]; rfl) rfl (lenOf pd__I_Ljava_lang_Integer_ rfl) rfl (by decide) (by decide) rfl rfl (by decide) (by decide) own_PV_sz (fun T80 h80 v80 Y80 R80 => ?_)
          obtain ⟨b80_0, rfl, K80, E80, F80⟩ := R80
          show own_Fin p e below _ (T80.setTop (mkF m 87 #[.val (.int p0), .val (.int p1), .val (.int p2), .val (.int p3), .val (.int p4), .val (.int p5), .val (.int (1 : Int32)), .val (.int (0 : Int32)), .val k0, .val k1, .val k2, .unset, .unset, .unset, .unset, .unset, .unset, .unset, .unset, .unset, .unset] [(.ref b80_0)]))
          exact J87 _ _ _ Y80 K80 (Or.inr ⟨b80_0, _, rfl, E80, F80⟩)
        ·
          refine own_ifNo Y3 hx (pc' := 79) (hb hby at_76) rfl ((if0 _ _).trans (feq qF79).1) ?_
          refine own_aconstNull Y3 hx (pc' := 80) (hb hby at_79) rfl ?_
          refine own_goto Y3 hx (pc' := 87) (hb hby at_80) (by decide) (by decide) ?_
          exact J87 _ _ .null (own_more Y3 (by decide) (by decide)) (own_Kp.refl _ _) (Or.inl rfl)
      by_cases qF84 : (p5 &&& (4 : Int32)) = (0 : Int32)
      ·
        refine own_ifYes Y2 hx (pc' := 65) (hb hby at_58) ((if0 _ _).trans (teq qF84).1) (by decide) (by decide) ?_
        refine own_iloadN Y2 hx (pc' := 66) (hb hby at_65) rfl rfl ?_
        have F86 := (own_St (own_St S_high K1 own_all0) K2 own_all0)
        have F87 := (own_St (own_St S_cache K1 own_all0) K2 own_all0)
        have F88 := (own_CacheK (own_CacheK H_cache K1) K2)
        refine own_static Y2 hx (pc' := 69) (W := 0) (cl' := 3) (sl' := 3) (as' := [(.int p2)]) (S' := []) hZ hown (own_w hw 1 rfl) (own_w hw 2 rfl) (own_w hw 3 rfl) (own_w hw 4 rfl) (by decide) (rm1_15 l Z a0 hw [] p2 w_cache h2 n0 (own_sz Y2) F86 F87 F88) (hb hby at_66) rfl (by rw [hml]; rfl) rfl (lenOf pd__I_Ljava_lang_Integer_ rfl) rfl (by decide) (by decide) rfl rfl (by decide) (by decide) own_PV_sz (fun T85 h85 v85 Y85 R85 => ?_)
        obtain ⟨b85_0, rfl, K85, E85, F85⟩ := R85
        show own_Fin p e below _ (T85.setTop (mkF m 69 #[.val (.int p0), .val (.int p1), .val (.int p2), .val (.int p3), .val (.int p4), .val (.int p5), .val (.int (1 : Int32)), .val (.int (0 : Int32)), .val k0, .val k1, .unset, .unset, .unset, .unset, .unset, .unset, .unset, .unset, .unset, .unset, .unset] [(.ref b85_0)]))
        exact J69 _ _ _ Y85 K85 (Or.inr ⟨b85_0, _, rfl, E85, F85⟩)
      ·
        refine own_ifNo Y2 hx (pc' := 61) (hb hby at_58) rfl ((if0 _ _).trans (feq qF84).1) ?_
        refine own_aconstNull Y2 hx (pc' := 62) (hb hby at_61) rfl ?_
        refine own_goto Y2 hx (pc' := 69) (hb hby at_62) (by decide) (by decide) ?_
        exact J69 _ _ .null (own_more Y2 (by decide) (by decide)) (own_Kp.refl _ _) (Or.inl rfl)
    by_cases qF89 : (p5 &&& (2 : Int32)) = (0 : Int32)
    ·
      refine own_ifYes Y1 hx (pc' := 48) (hb hby at_41) ((if0 _ _).trans (teq qF89).1) (by decide) (by decide) ?_
      refine own_iloadN Y1 hx (pc' := 49) (hb hby at_48) rfl rfl ?_
      have F91 := (own_St S_high K1 own_all0)
      have F92 := (own_St S_cache K1 own_all0)
      have F93 := (own_CacheK H_cache K1)
      refine own_static Y1 hx (pc' := 52) (W := 0) (cl' := 2) (sl' := 2) (as' := [(.int p1)]) (S' := []) hZ hown (own_w hw 1 rfl) (own_w hw 2 rfl) (own_w hw 3 rfl) (own_w hw 4 rfl) (by decide) (rm1_15 l Z a0 hw [] p1 w_cache h1 n0 (own_sz Y1) F91 F92 F93) (hb hby at_49) rfl (by rw [hml]; rfl) rfl (lenOf pd__I_Ljava_lang_Integer_ rfl) rfl (by decide) (by decide) rfl rfl (by decide) (by decide) own_PV_sz (fun T90 h90 v90 Y90 R90 => ?_)
      obtain ⟨b90_0, rfl, K90, E90, F90⟩ := R90
      show own_Fin p e below _ (T90.setTop (mkF m 52 #[.val (.int p0), .val (.int p1), .val (.int p2), .val (.int p3), .val (.int p4), .val (.int p5), .val (.int (1 : Int32)), .val (.int (0 : Int32)), .val k0, .unset, .unset, .unset, .unset, .unset, .unset, .unset, .unset, .unset, .unset, .unset, .unset] [(.ref b90_0)]))
      exact J52 _ _ _ Y90 K90 (Or.inr ⟨b90_0, _, rfl, E90, F90⟩)
    ·
      refine own_ifNo Y1 hx (pc' := 44) (hb hby at_41) rfl ((if0 _ _).trans (feq qF89).1) ?_
      refine own_aconstNull Y1 hx (pc' := 45) (hb hby at_44) rfl ?_
      refine own_goto Y1 hx (pc' := 52) (hb hby at_45) (by decide) (by decide) ?_
      exact J52 _ _ .null (own_more Y1 (by decide) (by decide)) (own_Kp.refl _ _) (Or.inl rfl)
  by_cases qF94 : (p5 &&& (1 : Int32)) = (0 : Int32)
  ·
    refine own_ifYes Y0 hx (pc' := 31) (hb hby at_24) ((if0 _ _).trans (teq qF94).1) (by decide) (by decide) ?_
    refine own_iloadN Y0 hx (pc' := 32) (hb hby at_31) rfl rfl ?_
    refine own_static Y0 hx (pc' := 35) (W := 0) (cl' := 1) (sl' := 1) (as' := [(.int p0)]) (S' := []) hZ hown (own_w hw 1 rfl) (own_w hw 2 rfl) (own_w hw 3 rfl) (own_w hw 4 rfl) (by decide) (rm1_15 l Z a0 hw [] p0 w_cache h0 n0 (own_sz Y0) S_high S_cache H_cache) (hb hby at_32) rfl (by rw [hml]; rfl) rfl (lenOf pd__I_Ljava_lang_Integer_ rfl) rfl (by decide) (by decide) rfl rfl (by decide) (by decide) own_PV_sz (fun T95 h95 v95 Y95 R95 => ?_)
    obtain ⟨b95_0, rfl, K95, E95, F95⟩ := R95
    show own_Fin p e below _ (T95.setTop (mkF m 35 #[.val (.int p0), .val (.int p1), .val (.int p2), .val (.int p3), .val (.int p4), .val (.int p5), .val (.int (1 : Int32)), .val (.int (0 : Int32)), .unset, .unset, .unset, .unset, .unset, .unset, .unset, .unset, .unset, .unset, .unset, .unset, .unset] [(.ref b95_0)]))
    exact J35 _ _ _ Y95 K95 (Or.inr ⟨b95_0, _, rfl, E95, F95⟩)
  ·
    refine own_ifNo Y0 hx (pc' := 27) (hb hby at_24) rfl ((if0 _ _).trans (feq qF94).1) ?_
    refine own_aconstNull Y0 hx (pc' := 28) (hb hby at_27) rfl ?_
    refine own_goto Y0 hx (pc' := 35) (hb hby at_28) (by decide) (by decide) ?_
    exact J35 _ _ .null (own_more Y0 (by decide) (by decide)) (own_Kp.refl _ _) (Or.inl rfl)
theorem d4_46 : decode prog_25_method_8_code 46 = .ok (.aload_n 0, 1) := by decide +kernel
theorem d4_47 : decode prog_25_method_8_code 47 = .ok (.aload 4, 2) := by decide +kernel
theorem d4_49 : decode prog_25_method_8_code 49 = .ok (.putfield 39, 3) := by decide +kernel
theorem d4_52 : decode prog_25_method_8_code 52 = .ok (.aload_n 0, 1) := by decide +kernel
theorem d4_53 : decode prog_25_method_8_code 53 = .ok (.aload_n 3, 1) := by decide +kernel
theorem d4_54 : decode prog_25_method_8_code 54 = .ok (.putfield 42, 3) := by decide +kernel
theorem d4_57 : decode prog_25_method_8_code 57 = .ok (.goto 26, 3) := by decide +kernel
def P4_16 (Z : State) (a1 : Addr) (v2 : Value) (v3 : Value) (a4 : Addr) (h0 : Heap) (h : Heap) : Prop := own_Kp h0 h [(a1, Jvm.RoadKit.slotOf Z zs0 "key1" zs1), (a1, Jvm.RoadKit.slotOf Z zs0 "value1" zs1)] ∧ Fld Z h a1 zs0 "key1" zs1 (.ref (own_sa a4 v2)) ∧ Fld Z h a1 zs0 "value1" zs1 v3
theorem P4_16_sz {Z : State} {a1 : Addr} {v2 : Value} {v3 : Value} {a4 : Addr} {h0 : Heap} : ∀ v h', (own_R none (P4_16 Z a1 v2 v3 a4 h0)) v h' → Array.size h0 ≤ Array.size h' := by
  intro v h' q
  obtain ⟨-, K, -⟩ := q
  exact K.1
set_option maxRecDepth 65536 in
set_option maxHeartbeats 40000000 in
theorem rm4_16 (l : Launch) (Z : State) (a0 : Array Value) (hw : ∀ d ∈ tables_1, d.before a0 Z = true) (ws : List Jvm.Cond) (a1 : Addr) (v2 : Value) (v3 : Value) (a4 : Addr) (h0 : Heap) (n0 : Nat) (Z0 : n0 ≤ Array.size h0) (P0 : own_Box Z h0 v2) (P1 : own_Box Z h0 v3) (P2 : Sta Z h0 zs0 "NULL_KEY" zs1 (.ref a4)) (P3 : Exa Z h0 a4 zs2) (P4 : Fld Z h0 a1 zs0 "key1" zs1 .null) (P5 : Exa Z h0 a1 zs0) (P6 : n0 ≤ a1) (P7 : Fld Z h0 a1 zs0 "value1" zs1 .null) :
    MetFree l (⟨zs0, "setEntry", zs5⟩ : MethodName) (head1 (Jvm.Cond.code (⟨zs0, "setEntry", zs5⟩ : MethodName) prog_25_method_8_code 5 none :: ws) ({ frames := 1, cells := 0, slots := 0, locals := 12 } : Room)) (fun a U => a = #[(.ref a1), (.int (1 : Int32)), v2, v3] ∧ Z.Warmed39 U.vm ∧ U.heap = h0) (fun _ _ _ _ _ => True) (fun _ U o U' => ∃ v L, o = .returned v ∧ own_QQ n0 (own_R none (P4_16 Z a1 v2 v3 a4 h0)) v U'.heap L ∧ FrameEnd U o U' L ({ frames := 1, cells := 0, slots := 0, locals := 12 } : Room).cells ({ frames := 1, cells := 0, slots := 0, locals := 12 } : Room).slots) := by
  refine MetFree.of_bodySF (plainFor_of_name pn_com_example_napkintree_napkintree_balancing_MultiwayTree_Node) hisR ?_
  intro p e s m args below meth c s₁ Bd hml0 hP hK
  obtain ⟨rfl, hZ, hh⟩ := hP
  have hx := Bd.exec
  have hby := Bd.bytes
  have hml : c.maxLocals = 5 := hml0
  have hown : s.vm.findClass zs0 = some m.cls := findClass_of_methodNamed Bd.named
  have hnm := (name_of_methodNamed Bd.named Bd.method).1
  have hlk : meth.locks = false := BodyLoose.notSynchronized Bd
  have Y0 : own_S p l e ({ frames := 1, cells := 0, slots := 0, locals := 12 } : Room) s m #[(.ref a1), (.int (1 : Int32)), v2, v3] below meth c n0 s₁ h0 0 0 := ⟨[], Stand.of_body Bd, Fr.nil n0, by rw [← hh, Bd.state]; rfl, Z0⟩
  refine (?_ : own_Fin p e below _ _)
  refine own_st (fun t k => castTop (ef_4_RIVV m a1 (1 : Int32) v2 (own_BoxRef P0) v3 (own_BoxRef P1)) k) ?_
  refine own_aloadN Y0 hx (pc' := 1) (hb hby d4_0) rfl rfl (own_BoxRef P0) ?_
  refine own_static Y0 hx (pc' := 4) (W := 0) (cl' := 0) (sl' := 0) (as' := [v2]) (S' := []) hZ hown (own_w hw 25 rfl) (own_w hw 26 rfl) (own_w hw 13 rfl) (own_w hw 27 rfl) (by decide) (rm5_2 l Z a0 hw [] v2 a4 h0 n0 (own_sz Y0) P0 P2 P3) (hb hby d4_1) rfl (by rw [hml]; rfl) rfl (lenOf pd__Ljava_lang_Object__Ljava_lang_Object_ rfl) rfl (by decide) (by decide) rfl rfl (by decide) (by decide) own_Same.sz (own_fixS (S2 := [(.ref (own_sa a4 v2))]) rfl (fun T1 Y1 => ?_))
  refine own_astore Y1 hx (pc' := 6) (Ls' := #[.val (.ref a1), .val (.int (1 : Int32)), .val v2, .val v3, .val (.ref (own_sa a4 v2))]) (hb hby d4_4) rfl rfl rfl ?_
  refine own_iloadN Y1 hx (pc' := 7) (hb hby d4_6) rfl rfl ?_
  refine own_tswIn Y1 hx (pc' := 46) (o := 39) (hb hby d4_7) (by decide) (by decide) (by decide) (by decide) ?_
  refine own_aloadN Y1 hx (pc' := 47) (hb hby d4_46) rfl rfl rfl ?_
  refine own_aload Y1 hx (pc' := 49) (hb hby d4_47) rfl rfl rfl ?_
  refine own_putF Y1 hx (pc' := 52) hZ hown (host := "") (Or.inl (own_w hw 34 rfl)) Via.refl P4 P5 (Or.inl (own_w hw 35 rfl)) (own_w hw 12 rfl) (ty := (.object zs2)) (by decide) rfl rfl P6 (hb hby d4_49) rfl (fun T2 h2 Y2 K2 F2 => ?_)
  refine own_aloadN Y2 hx (pc' := 53) (hb hby d4_52) rfl rfl rfl ?_
  refine own_aloadN Y2 hx (pc' := 54) (hb hby d4_53) rfl rfl (own_BoxRef P1) ?_
  have F3 := (own_F (v := .null) P7 K2 (own_nr (sl_11 hw) own_nin0))
  have F4 := (own_E P5 K2)
  refine own_putF Y2 hx (pc' := 57) hZ hown (host := "") (Or.inl (own_w hw 36 rfl)) Via.refl F3 F4 (Or.inl (own_w hw 37 rfl)) (own_w hw 12 rfl) (ty := (.object zs2)) (by decide) (own_narR rfl (own_BoxRef P1)) (own_fitR rfl (own_BoxRef P1)) P6 (hb hby d4_54) rfl (fun T5 h5 Y5 K5 F5 => ?_)
  refine own_goto Y5 hx (pc' := 83) (hb hby d4_57) (by decide) (by decide) ?_
  have KC6 : own_Kp h0 h5 [(a1, Jvm.RoadKit.slotOf Z zs0 "key1" zs1), (a1, Jvm.RoadKit.slotOf Z zs0 "value1" zs1)] := (((own_Kp.refl h0 [(a1, Jvm.RoadKit.slotOf Z zs0 "key1" zs1), (a1, Jvm.RoadKit.slotOf Z zs0 "value1" zs1)]).trans K2 (own_allS (Or.inl (List.mem_of_getElem? (i := 0) rfl)) own_all0)).trans K5 (own_allS (Or.inl (List.mem_of_getElem? (i := 1) rfl)) own_all0))
  have F7 := (own_F (v := (.ref (own_sa a4 v2))) F2 K5 (own_nr (sl_24 hw) own_nin0))
  exact own_ret0 Y5 hx hlk Bd.returns (hb hby d4_83) ⟨rfl, KC6, F7, F5⟩ (by decide) (by decide)
def P6_17 (Z : State) (a1 : Addr) (a2 : Addr) (v3 : Value) (v4 : Value) (v5 : Value) (v6 : Value) (h0 : Heap) (h : Heap) : Prop := own_Kp h0 h [(a1, Jvm.RoadKit.slotOf Z zs0 "key0" zs1), (a1, Jvm.RoadKit.slotOf Z zs0 "value0" zs1), (a1, Jvm.RoadKit.slotOf Z zs0 "key1" zs1), (a1, Jvm.RoadKit.slotOf Z zs0 "value1" zs1), (a1, Jvm.RoadKit.slotOf Z zs0 "key2" zs1), (a1, Jvm.RoadKit.slotOf Z zs0 "value2" zs1)] ∧ Fld Z h a1 zs0 "key0" zs1 (.ref (own_sa a2 v3)) ∧ Fld Z h a1 zs0 "value0" zs1 v5 ∧ Fld Z h a1 zs0 "key1" zs1 .null ∧ Fld Z h a1 zs0 "value1" zs1 .null ∧ Fld Z h a1 zs0 "key2" zs1 .null ∧ Fld Z h a1 zs0 "value2" zs1 .null
theorem P6_17_sz {Z : State} {a1 : Addr} {a2 : Addr} {v3 : Value} {v4 : Value} {v5 : Value} {v6 : Value} {h0 : Heap} : ∀ v h', (own_R none (P6_17 Z a1 a2 v3 v4 v5 v6 h0)) v h' → Array.size h0 ≤ Array.size h' := by
  intro v h' q
  obtain ⟨-, K, -⟩ := q
  exact K.1
set_option maxRecDepth 65536 in
set_option maxHeartbeats 40000000 in
theorem rm6_17 (l : Launch) (Z : State) (a0 : Array Value) (hw : ∀ d ∈ tables_1, d.before a0 Z = true) (ws : List Jvm.Cond) (a1 : Addr) (a2 : Addr) (v3 : Value) (v4 : Value) (v5 : Value) (v6 : Value) (h0 : Heap) (n0 : Nat) (Z0 : n0 ≤ Array.size h0) (P0 : own_Box Z h0 v3) (P1 : Fld Z h0 a1 zs0 "key1" zs1 (.ref (own_sa a2 v3))) (P2 : own_Box Z h0 v4) (P3 : Fld Z h0 a1 zs0 "key0" zs1 (.ref (own_sa a2 v4))) (P4 : Exa Z h0 a1 zs0) (P5 : n0 ≤ a1) (P6 : own_Box Z h0 v5) (P7 : Fld Z h0 a1 zs0 "value1" zs1 v5) (P8 : own_Box Z h0 v6) (P9 : Fld Z h0 a1 zs0 "value0" zs1 v6) (P10 : Fld Z h0 a1 zs0 "key2" zs1 .null) (P11 : Fld Z h0 a1 zs0 "value2" zs1 .null) :
    MetFree l (⟨zs0, "removeEntry", "(I)V"⟩ : MethodName) (head1 (Jvm.Cond.code (⟨zs0, "removeEntry", "(I)V"⟩ : MethodName) prog_25_method_5_code 2 none :: ws) ({ frames := 0, cells := 0, slots := 0, locals := 0 } : Room)) (fun a U => a = #[(.ref a1), (.int (0 : Int32))] ∧ Z.Warmed39 U.vm ∧ U.heap = h0) (fun _ _ _ _ _ => True) (fun _ U o U' => ∃ v L, o = .returned v ∧ own_QQ n0 (own_R none (P6_17 Z a1 a2 v3 v4 v5 v6 h0)) v U'.heap L ∧ FrameEnd U o U' L ({ frames := 0, cells := 0, slots := 0, locals := 0 } : Room).cells ({ frames := 0, cells := 0, slots := 0, locals := 0 } : Room).slots) := by
  refine MetFree.of_bodySF (plainFor_of_name pn_com_example_napkintree_napkintree_balancing_MultiwayTree_Node) hisR ?_
  intro p e s m args below meth c s₁ Bd hml0 hP hK
  obtain ⟨rfl, hZ, hh⟩ := hP
  have hx := Bd.exec
  have hby := Bd.bytes
  have hml : c.maxLocals = 2 := hml0
  have hown : s.vm.findClass zs0 = some m.cls := findClass_of_methodNamed Bd.named
  have hnm := (name_of_methodNamed Bd.named Bd.method).1
  have hlk : meth.locks = false := BodyLoose.notSynchronized Bd
  have Y0 : own_S p l e ({ frames := 0, cells := 0, slots := 0, locals := 0 } : Room) s m #[(.ref a1), (.int (0 : Int32))] below meth c n0 s₁ h0 0 0 := ⟨[], Stand.of_body Bd, Fr.nil n0, by rw [← hh, Bd.state]; rfl, Z0⟩
  refine (?_ : own_Fin p e below _ _)
  refine own_st (fun t k => castTop (ef_6_RI m a1 (0 : Int32)) k) ?_
  refine own_iloadN Y0 hx (pc' := 1) (hb hby d6_0) rfl rfl ?_
  refine own_ifNo Y0 hx (pc' := 4) (hb hby d6_1) rfl (by decide) ?_
  refine own_aloadN Y0 hx (pc' := 5) (hb hby d6_4) rfl rfl rfl ?_
  refine own_aloadN Y0 hx (pc' := 6) (hb hby d6_5) rfl rfl rfl ?_
  refine own_getF Y0 hx (pc' := 9) (v := (.ref (own_sa a2 v3))) hZ hown (host := "") (Or.inl (own_w hw 34 rfl)) Via.refl P1 (hb hby d6_6) rfl (fun T1 Y1 => ?_)
  refine own_putF Y1 hx (pc' := 12) hZ hown (host := "") (Or.inl (own_w hw 30 rfl)) Via.refl P3 P4 (Or.inl (own_w hw 31 rfl)) (own_w hw 12 rfl) (ty := (.object zs2)) (by decide) rfl rfl P5 (hb hby d6_9) rfl (fun T2 h2 Y2 K2 F2 => ?_)
  refine own_aloadN Y2 hx (pc' := 13) (hb hby d6_12) rfl rfl rfl ?_
  refine own_aloadN Y2 hx (pc' := 14) (hb hby d6_13) rfl rfl rfl ?_
  have F3 := (own_F (v := v5) P7 K2 (own_nr (sl_4 hw) own_nin0))
  refine own_getF Y2 hx (pc' := 17) (v := v5) hZ hown (host := "") (Or.inl (own_w hw 36 rfl)) Via.refl F3 (hb hby d6_14) rfl (fun T4 Y4 => ?_)
  have F5 := (own_F (v := v6) P9 K2 (own_nr (sl_0 hw) own_nin0))
  have F6 := (own_E P4 K2)
  refine own_putF Y4 hx (pc' := 20) hZ hown (host := "") (Or.inl (own_w hw 32 rfl)) Via.refl F5 F6 (Or.inl (own_w hw 33 rfl)) (own_w hw 12 rfl) (ty := (.object zs2)) (by decide) (own_narR rfl (own_BoxRef P6)) (own_fitR rfl (own_BoxRef P6)) P5 (hb hby d6_17) rfl (fun T7 h7 Y7 K7 F7 => ?_)
  refine own_iloadN Y7 hx (pc' := 21) (hb hby d6_20) rfl rfl ?_
  refine own_iconst Y7 hx (pc' := 22) (x := (1 : Int32)) (hb hby d6_21) rfl (by decide) ?_
  refine own_icmpNo Y7 hx (pc' := 25) (hb hby d6_22) rfl (by decide) ?_
  refine own_aloadN Y7 hx (pc' := 26) (hb hby d6_25) rfl rfl rfl ?_
  refine own_aloadN Y7 hx (pc' := 27) (hb hby d6_26) rfl rfl rfl ?_
  have F8 := (own_F (v := .null) (own_F (v := .null) P10 K2 (own_nr (sl_6 hw) own_nin0)) K7 (own_nr (sl_7 hw) own_nin0))
  refine own_getF Y7 hx (pc' := 30) (v := .null) hZ hown (host := "") (Or.inl (own_w hw 43 rfl)) Via.refl F8 (hb hby d6_27) rfl (fun T9 Y9 => ?_)
  have F10 := (own_F (v := (.ref (own_sa a2 v3))) (own_F (v := (.ref (own_sa a2 v3))) P1 K2 (own_nr (sl_2 hw) own_nin0)) K7 (own_nr (sl_3 hw) own_nin0))
  have F11 := (own_E F6 K7)
  refine own_putF Y9 hx (pc' := 33) hZ hown (host := "") (Or.inl (own_w hw 34 rfl)) Via.refl F10 F11 (Or.inl (own_w hw 35 rfl)) (own_w hw 12 rfl) (ty := (.object zs2)) (by decide) rfl rfl P5 (hb hby d6_30) rfl (fun T12 h12 Y12 K12 F12 => ?_)
  refine own_aloadN Y12 hx (pc' := 34) (hb hby d6_33) rfl rfl rfl ?_
  refine own_aloadN Y12 hx (pc' := 35) (hb hby d6_34) rfl rfl rfl ?_
  have F13 := (own_F (v := .null) (own_F (v := .null) (own_F (v := .null) P11 K2 (own_nr (sl_8 hw) own_nin0)) K7 (own_nr (sl_9 hw) own_nin0)) K12 (own_nr (sl_10 hw) own_nin0))
  refine own_getF Y12 hx (pc' := 38) (v := .null) hZ hown (host := "") (Or.inl (own_w hw 45 rfl)) Via.refl F13 (hb hby d6_35) rfl (fun T14 Y14 => ?_)
  have F15 := (own_F (v := v5) (own_F (v := v5) F3 K7 (own_nr (sl_5 hw) own_nin0)) K12 (own_nr (sl_11 hw) own_nin0))
  have F16 := (own_E F11 K12)
  refine own_putF Y14 hx (pc' := 41) hZ hown (host := "") (Or.inl (own_w hw 36 rfl)) Via.refl F15 F16 (Or.inl (own_w hw 37 rfl)) (own_w hw 12 rfl) (ty := (.object zs2)) (by decide) rfl rfl P5 (hb hby d6_38) rfl (fun T17 h17 Y17 K17 F17 => ?_)
  refine own_aloadN Y17 hx (pc' := 42) (hb hby d6_41) rfl rfl rfl ?_
  refine own_aconstNull Y17 hx (pc' := 43) (hb hby d6_42) rfl ?_
  have F18 := (own_F (v := .null) (own_F (v := .null) F8 K12 (own_nr (sl_12 hw) own_nin0)) K17 (own_nr (sl_13 hw) own_nin0))
  have F19 := (own_E F16 K17)
  refine own_putF Y17 hx (pc' := 46) hZ hown (host := "") (Or.inl (own_w hw 43 rfl)) Via.refl F18 F19 (Or.inl (own_w hw 44 rfl)) (own_w hw 12 rfl) (ty := (.object zs2)) (by decide) rfl rfl P5 (hb hby d6_43) rfl (fun T20 h20 Y20 K20 F20 => ?_)
  refine own_aloadN Y20 hx (pc' := 47) (hb hby d6_46) rfl rfl rfl ?_
  refine own_aconstNull Y20 hx (pc' := 48) (hb hby d6_47) rfl ?_
  have F21 := (own_F (v := .null) (own_F (v := .null) F13 K17 (own_nr (sl_14 hw) own_nin0)) K20 (own_nr (sl_15 hw) own_nin0))
  have F22 := (own_E F19 K20)
  refine own_putF Y20 hx (pc' := 51) hZ hown (host := "") (Or.inl (own_w hw 45 rfl)) Via.refl F21 F22 (Or.inl (own_w hw 46 rfl)) (own_w hw 12 rfl) (ty := (.object zs2)) (by decide) rfl rfl P5 (hb hby d6_48) rfl (fun T23 h23 Y23 K23 F23 => ?_)
  have KC24 : own_Kp h0 h23 [(a1, Jvm.RoadKit.slotOf Z zs0 "key0" zs1), (a1, Jvm.RoadKit.slotOf Z zs0 "value0" zs1), (a1, Jvm.RoadKit.slotOf Z zs0 "key1" zs1), (a1, Jvm.RoadKit.slotOf Z zs0 "value1" zs1), (a1, Jvm.RoadKit.slotOf Z zs0 "key2" zs1), (a1, Jvm.RoadKit.slotOf Z zs0 "value2" zs1)] := (((((((own_Kp.refl h0 [(a1, Jvm.RoadKit.slotOf Z zs0 "key0" zs1), (a1, Jvm.RoadKit.slotOf Z zs0 "value0" zs1), (a1, Jvm.RoadKit.slotOf Z zs0 "key1" zs1), (a1, Jvm.RoadKit.slotOf Z zs0 "value1" zs1), (a1, Jvm.RoadKit.slotOf Z zs0 "key2" zs1), (a1, Jvm.RoadKit.slotOf Z zs0 "value2" zs1)]).trans K2 (own_allS (Or.inl (List.mem_of_getElem? (i := 0) rfl)) own_all0)).trans K7 (own_allS (Or.inl (List.mem_of_getElem? (i := 1) rfl)) own_all0)).trans K12 (own_allS (Or.inl (List.mem_of_getElem? (i := 2) rfl)) own_all0)).trans K17 (own_allS (Or.inl (List.mem_of_getElem? (i := 3) rfl)) own_all0)).trans K20 (own_allS (Or.inl (List.mem_of_getElem? (i := 4) rfl)) own_all0)).trans K23 (own_allS (Or.inl (List.mem_of_getElem? (i := 5) rfl)) own_all0))
  have F25 := (own_F (v := (.ref (own_sa a2 v3))) (own_F (v := (.ref (own_sa a2 v3))) (own_F (v := (.ref (own_sa a2 v3))) (own_F (v := (.ref (own_sa a2 v3))) (own_F (v := (.ref (own_sa a2 v3))) F2 K7 (own_nr (sl_1 hw) own_nin0)) K12 (own_nr (sl_16 hw) own_nin0)) K17 (own_nr (sl_17 hw) own_nin0)) K20 (own_nr (sl_18 hw) own_nin0)) K23 (own_nr (sl_19 hw) own_nin0))
  have F26 := (own_F (v := v5) (own_F (v := v5) (own_F (v := v5) (own_F (v := v5) F7 K12 (own_nr (sl_20 hw) own_nin0)) K17 (own_nr (sl_21 hw) own_nin0)) K20 (own_nr (sl_22 hw) own_nin0)) K23 (own_nr (sl_23 hw) own_nin0))
  have F27 := (own_F (v := .null) (own_F (v := .null) (own_F (v := .null) F12 K17 (own_nr (sl_24 hw) own_nin0)) K20 (own_nr (sl_25 hw) own_nin0)) K23 (own_nr (sl_26 hw) own_nin0))
  have F28 := (own_F (v := .null) (own_F (v := .null) F17 K20 (own_nr (sl_27 hw) own_nin0)) K23 (own_nr (sl_28 hw) own_nin0))
  have F29 := (own_F (v := .null) F20 K23 (own_nr (sl_29 hw) own_nin0))
  exact own_ret0 Y23 hx hlk Bd.returns (hb hby d6_51) ⟨rfl, KC24, F25, F26, F27, F28, F29, F23⟩ (by decide) (by decide)
theorem d7_11 : decode prog_25_method_16_code 11 = .ok (.aload_n 0, 1) := by decide +kernel
theorem d7_12 : decode prog_25_method_16_code 12 = .ok (.getfield 39, 3) := by decide +kernel
theorem d7_15 : decode prog_25_method_16_code 15 = .ok (.ifnonnull 7, 3) := by decide +kernel
theorem d7_18 : decode prog_25_method_16_code 18 = .ok (.iconst 1, 1) := by decide +kernel
theorem d7_19 : decode prog_25_method_16_code 19 = .ok (.goto 15, 3) := by decide +kernel
set_option maxRecDepth 65536 in
set_option maxHeartbeats 40000000 in
theorem rm7_18 (l : Launch) (Z : State) (a0 : Array Value) (hw : ∀ d ∈ tables_1, d.before a0 Z = true) (ws : List Jvm.Cond) (a1 : Addr) (a2 : Addr) (v3 : Value) (h0 : Heap) (n0 : Nat) (Z0 : n0 ≤ Array.size h0) (P0 : own_Box Z h0 v3) (P1 : Fld Z h0 a1 zs0 "key0" zs1 (.ref (own_sa a2 v3))) (P2 : Fld Z h0 a1 zs0 "key1" zs1 .null) :
    MetFree l (⟨zs0, "keyCount", "()I"⟩ : MethodName) (head1 (Jvm.Cond.code (⟨zs0, "keyCount", "()I"⟩ : MethodName) prog_25_method_16_code 1 (some .int) :: ws) ({ frames := 0, cells := 0, slots := 0, locals := 0 } : Room)) (fun a U => a = #[(.ref a1)] ∧ Z.Warmed39 U.vm ∧ U.heap = h0) (fun _ _ _ _ _ => True) (fun _ U o U' => ∃ v L, o = .returned v ∧ own_QQ n0 (own_Same (some (.int (1 : Int32))) h0) v U'.heap L ∧ FrameEnd U o U' L ({ frames := 0, cells := 0, slots := 0, locals := 0 } : Room).cells ({ frames := 0, cells := 0, slots := 0, locals := 0 } : Room).slots) := by
  refine MetFree.of_bodySF (plainFor_of_name pn_com_example_napkintree_napkintree_balancing_MultiwayTree_Node) hisR ?_
  intro p e s m args below meth c s₁ Bd hml0 hP hK
  obtain ⟨rfl, hZ, hh⟩ := hP
  have hx := Bd.exec
  have hby := Bd.bytes
  have hml : c.maxLocals = 1 := hml0
  have hown : s.vm.findClass zs0 = some m.cls := findClass_of_methodNamed Bd.named
  have hnm := (name_of_methodNamed Bd.named Bd.method).1
  have hlk : meth.locks = false := BodyLoose.notSynchronized Bd
  have Y0 : own_S p l e ({ frames := 0, cells := 0, slots := 0, locals := 0 } : Room) s m #[(.ref a1)] below meth c n0 s₁ h0 0 0 := ⟨[], Stand.of_body Bd, Fr.nil n0, by rw [← hh, Bd.state]; rfl, Z0⟩
  refine (?_ : own_Fin p e below _ _)
  refine own_st (fun t k => castTop (ef_7_R m a1) k) ?_
  refine own_aloadN Y0 hx (pc' := 1) (hb hby d7_0) rfl rfl rfl ?_
  refine own_getF Y0 hx (pc' := 4) (v := (.ref (own_sa a2 v3))) hZ hown (host := "") (Or.inl (own_w hw 30 rfl)) Via.refl P1 (hb hby d7_1) rfl (fun T1 Y1 => ?_)
  refine own_ifnonnullYes Y1 hx (pc' := 11) (hb hby d7_4) (by decide) (by decide) ?_
  refine own_aloadN Y1 hx (pc' := 12) (hb hby d7_11) rfl rfl rfl ?_
  refine own_getF Y1 hx (pc' := 15) (v := .null) hZ hown (host := "") (Or.inl (own_w hw 34 rfl)) Via.refl P2 (hb hby d7_12) rfl (fun T2 Y2 => ?_)
  refine own_ifnonnullNo Y2 hx (pc' := 18) (hb hby d7_15) rfl ?_
  refine own_iconst Y2 hx (pc' := 19) (x := (1 : Int32)) (hb hby d7_18) rfl (by decide) ?_
  refine own_goto Y2 hx (pc' := 34) (hb hby d7_19) (by decide) (by decide) ?_
  exact own_retN Y2 hx hlk Bd.returns rfl (by simp) (hb hby d7_34) ⟨rfl, rfl⟩ (by decide) (by decide)
theorem d9_7 : decode prog_25_method_19_code 7 = .ok (.aconst_null, 1) := by decide +kernel
theorem d9_8 : decode prog_25_method_19_code 8 = .ok (.goto 4, 3) := by decide +kernel
theorem ef_9_R (m : MethodId) (x0 : Addr) : entryFrame m #[(.ref x0)] 1 = mkF m 0 #[.val (.ref x0)] [] := by first | (simp [entryFrame, mkF, argsToLocals, Value.category]; done) | rfl
set_option maxRecDepth 65536 in
set_option maxHeartbeats 40000000 in
theorem rm9_19 (l : Launch) (Z : State) (a0 : Array Value) (hw : ∀ d ∈ tables_1, d.before a0 Z = true) (ws : List Jvm.Cond) (a1 : Addr) (v2 : Value) (h0 : Heap) (n0 : Nat) (Z0 : n0 ≤ Array.size h0) (P0 : own_Box Z h0 v2) (P1 : Exa Z h0 a1 zs2) (P2 : Sta Z h0 zs0 "NULL_KEY" zs1 (.ref a1)) :
    MetFree l (⟨zs0, "keyIn", zs4⟩ : MethodName) (head1 (Jvm.Cond.code (⟨zs0, "keyIn", zs4⟩ : MethodName) prog_25_method_19_code 1 (some (.object zs2)) :: ws) ({ frames := 0, cells := 0, slots := 0, locals := 0 } : Room)) (fun a U => a = #[(.ref (own_sa a1 v2))] ∧ Z.Warmed39 U.vm ∧ U.heap = h0) (fun _ _ _ _ _ => True) (fun _ U o U' => ∃ v L, o = .returned v ∧ own_QQ n0 (own_Same (some v2) h0) v U'.heap L ∧ FrameEnd U o U' L ({ frames := 0, cells := 0, slots := 0, locals := 0 } : Room).cells ({ frames := 0, cells := 0, slots := 0, locals := 0 } : Room).slots) := by
  refine MetFree.of_bodySF (plainFor_of_name pn_com_example_napkintree_napkintree_balancing_MultiwayTree_Node) hisR ?_
  intro p e s m args below meth c s₁ Bd hml0 hP hK
  obtain ⟨rfl, hZ, hh⟩ := hP
  have hx := Bd.exec
  have hby := Bd.bytes
  have hml : c.maxLocals = 1 := hml0
  have hown : s.vm.findClass zs0 = some m.cls := findClass_of_methodNamed Bd.named
  have hnm := (name_of_methodNamed Bd.named Bd.method).1
  have hlk : meth.locks = false := BodyLoose.notSynchronized Bd
  have Y0 : own_S p l e ({ frames := 0, cells := 0, slots := 0, locals := 0 } : Room) s m #[(.ref (own_sa a1 v2))] below meth c n0 s₁ h0 0 0 := ⟨[], Stand.of_body Bd, Fr.nil n0, by rw [← hh, Bd.state]; rfl, Z0⟩
  refine (?_ : own_Fin p e below _ _)
  refine own_st (fun t k => castTop (ef_9_R m (own_sa a1 v2)) k) ?_
  refine own_aloadN Y0 hx (pc' := 1) (hb hby d9_0) rfl rfl rfl ?_
  refine own_getS Y0 hx (pc' := 4) (v := (.ref a1)) hZ hown (host := "") (Or.inl (own_w hw 28 rfl)) Via.refl P2 (hb hby d9_1) rfl (fun T1 Y1 => ?_)
  rcases P0 with hv2 | ⟨a_2, x_2, hv2, E_2, F_2⟩
  ·
    subst hv2
    refine own_acmp Y1 hx (pc' := 7) (same := true) (hb hby d9_4) rfl rfl (decide_eq_true rfl) (by decide) (by decide) ?_
    refine own_aconstNull Y1 hx (pc' := 8) (hb hby d9_7) rfl ?_
    refine own_goto Y1 hx (pc' := 12) (hb hby d9_8) (by decide) (by decide) ?_
    exact own_retA Y1 hx hlk Bd.returns rfl rfl rfl (hb hby d9_12) ⟨rfl, rfl⟩ (by decide) (by decide)
  ·
    subst hv2
    have D3 : a_2 ≠ a1 := (ne_exa E_2 P1 (by decide))
    refine own_acmp Y1 hx (pc' := 11) (same := false) (hb hby d9_4) rfl rfl (decide_eq_false fun q => D3 (Value.ref.inj q)) (by decide) (by decide) ?_
    refine own_aloadN Y1 hx (pc' := 12) (hb hby d9_11) rfl rfl rfl ?_
    exact own_retA Y1 hx hlk Bd.returns rfl rfl rfl (hb hby d9_12) ⟨rfl, rfl⟩ (by decide) (by decide)
set_option maxRecDepth 65536 in
set_option maxHeartbeats 40000000 in
theorem rm8_20 (l : Launch) (Z : State) (a0 : Array Value) (hw : ∀ d ∈ tables_1, d.before a0 Z = true) (ws : List Jvm.Cond) (a1 : Addr) (a2 : Addr) (v3 : Value) (h0 : Heap) (n0 : Nat) (Z0 : n0 ≤ Array.size h0) (P0 : own_Box Z h0 v3) (P1 : Fld Z h0 a1 zs0 "key0" zs1 (.ref (own_sa a2 v3))) (P2 : Exa Z h0 a2 zs2) (P3 : Sta Z h0 zs0 "NULL_KEY" zs1 (.ref a2)) :
    MetFree l (⟨zs0, "key", zs6⟩ : MethodName) (head1 (Jvm.Cond.code (⟨zs0, "key", zs6⟩ : MethodName) prog_25_method_17_code 3 (some (.object zs2)) :: ws) ({ frames := 1, cells := 0, slots := 0, locals := 12 } : Room)) (fun a U => a = #[(.ref a1), (.int (0 : Int32))] ∧ Z.Warmed39 U.vm ∧ U.heap = h0) (fun _ _ _ _ _ => True) (fun _ U o U' => ∃ v L, o = .returned v ∧ own_QQ n0 (own_Same (some v3) h0) v U'.heap L ∧ FrameEnd U o U' L ({ frames := 1, cells := 0, slots := 0, locals := 12 } : Room).cells ({ frames := 1, cells := 0, slots := 0, locals := 12 } : Room).slots) := by
  refine MetFree.of_bodySF (plainFor_of_name pn_com_example_napkintree_napkintree_balancing_MultiwayTree_Node) hisR ?_
  intro p e s m args below meth c s₁ Bd hml0 hP hK
  obtain ⟨rfl, hZ, hh⟩ := hP
  have hx := Bd.exec
  have hby := Bd.bytes
  have hml : c.maxLocals = 3 := hml0
  have hown : s.vm.findClass zs0 = some m.cls := findClass_of_methodNamed Bd.named
  have hnm := (name_of_methodNamed Bd.named Bd.method).1
  have hlk : meth.locks = false := BodyLoose.notSynchronized Bd
  have Y0 : own_S p l e ({ frames := 1, cells := 0, slots := 0, locals := 12 } : Room) s m #[(.ref a1), (.int (0 : Int32))] below meth c n0 s₁ h0 0 0 := ⟨[], Stand.of_body Bd, Fr.nil n0, by rw [← hh, Bd.state]; rfl, Z0⟩
  refine (?_ : own_Fin p e below _ _)
  refine own_st (fun t k => castTop (ef_8_RI m a1 (0 : Int32)) k) ?_
  refine own_iloadN Y0 hx (pc' := 1) (hb hby d8_0) rfl rfl ?_
  refine own_tswIn Y0 hx (pc' := 28) (o := 27) (hb hby d8_1) (by decide) (by decide) (by decide) (by decide) ?_
  refine own_aloadN Y0 hx (pc' := 29) (hb hby d8_28) rfl rfl rfl ?_
  refine own_getF Y0 hx (pc' := 32) (v := (.ref (own_sa a2 v3))) hZ hown (host := "") (Or.inl (own_w hw 30 rfl)) Via.refl P1 (hb hby d8_29) rfl (fun T1 Y1 => ?_)
  refine own_goto Y1 hx (pc' := 58) (hb hby d8_32) (by decide) (by decide) ?_
  refine own_astoreN Y1 hx (pc' := 59) (Ls' := #[.val (.ref a1), .val (.int (0 : Int32)), .val (.ref (own_sa a2 v3))]) (hb hby d8_58) rfl rfl rfl ?_
  refine own_aloadN Y1 hx (pc' := 60) (hb hby d8_59) rfl rfl rfl ?_
  refine own_static Y1 hx (pc' := 63) (W := 0) (cl' := 0) (sl' := 0) (as' := [(.ref (own_sa a2 v3))]) (S' := []) hZ hown (own_w hw 57 rfl) (own_w hw 58 rfl) (own_w hw 13 rfl) (own_w hw 59 rfl) (by decide) (rm9_19 l Z a0 hw [] a2 v3 h0 n0 (own_sz Y1) P0 P2 P3) (hb hby d8_60) rfl (by rw [hml]; rfl) rfl (lenOf pd__Ljava_lang_Object__Ljava_lang_Object_ rfl) rfl (by decide) (by decide) rfl rfl (by decide) (by decide) own_Same.sz (own_fixS (S2 := [v3]) rfl (fun T2 Y2 => ?_))
  exact own_retA Y2 hx hlk Bd.returns (own_narR rfl (own_BoxRef P0)) rfl (own_BoxRef P0) (hb hby d8_63) ⟨rfl, rfl⟩ (by decide) (by decide)
theorem d10_14 : decode method_2_code 14 = .ok (.aload_n 1, 1) := by decide +kernel
theorem d10_15 : decode method_2_code 15 = .ok (.ifnull 18, 3) := by decide +kernel
theorem d10_18 : decode method_2_code 18 = .ok (.aload_n 0, 1) := by decide +kernel
theorem d10_19 : decode method_2_code 19 = .ok (.invokevirtual 7, 3) := by decide +kernel
theorem d12_0 : decode jdk_33_method_27_code 0 = .ok (.aload_n 0, 1) := by decide +kernel
theorem d12_1 : decode jdk_33_method_27_code 1 = .ok (.getfield 205, 3) := by decide +kernel
theorem d12_4 : decode jdk_33_method_27_code 4 = .ok (.ireturn, 1) := by decide +kernel
theorem ef_12_R (m : MethodId) (x0 : Addr) : entryFrame m #[(.ref x0)] 1 = mkF m 0 #[.val (.ref x0)] [] := by first | (simp [entryFrame, mkF, argsToLocals, Value.category]; done) | rfl
set_option maxRecDepth 65536 in
set_option maxHeartbeats 40000000 in
theorem rm12_21 (l : Launch) (Z : State) (a0 : Array Value) (hw : ∀ d ∈ tables_1, d.before a0 Z = true) (ws : List Jvm.Cond) (a1 : Addr) (i2 : Int32) (h0 : Heap) (n0 : Nat) (Z0 : n0 ≤ Array.size h0) (P0 : Fld Z h0 a1 zs9 "value" "I" (.int i2)) :
    MetFree l (⟨zs9, "intValue", "()I"⟩ : MethodName) (head1 (Jvm.Cond.code (⟨zs9, "intValue", "()I"⟩ : MethodName) jdk_33_method_27_code 1 (some .int) :: ws) ({ frames := 0, cells := 0, slots := 0, locals := 0 } : Room)) (fun a U => a = #[(.ref a1)] ∧ Z.Warmed39 U.vm ∧ U.heap = h0) (fun _ _ _ _ _ => True) (fun _ U o U' => ∃ v L, o = .returned v ∧ own_QQ n0 (own_Same (some (.int i2)) h0) v U'.heap L ∧ FrameEnd U o U' L ({ frames := 0, cells := 0, slots := 0, locals := 0 } : Room).cells ({ frames := 0, cells := 0, slots := 0, locals := 0 } : Room).slots) := by
  refine MetFree.of_bodySF (plainFor_of_name pn_java_lang_Integer) hisR ?_
  intro p e s m args below meth c s₁ Bd hml0 hP hK
  obtain ⟨rfl, hZ, hh⟩ := hP
  have hx := Bd.exec
  have hby := Bd.bytes
  have hml : c.maxLocals = 1 := hml0
  have hown : s.vm.findClass zs9 = some m.cls := findClass_of_methodNamed Bd.named
  have hnm := (name_of_methodNamed Bd.named Bd.method).1
  have hlk : meth.locks = false := BodyLoose.notSynchronized Bd
  have Y0 : own_S p l e ({ frames := 0, cells := 0, slots := 0, locals := 0 } : Room) s m #[(.ref a1)] below meth c n0 s₁ h0 0 0 := ⟨[], Stand.of_body Bd, Fr.nil n0, by rw [← hh, Bd.state]; rfl, Z0⟩
  refine (?_ : own_Fin p e below _ _)
  refine own_st (fun t k => castTop (ef_12_R m a1) k) ?_
  refine own_aloadN Y0 hx (pc' := 1) (hb hby d12_0) rfl rfl rfl ?_
  refine own_getF Y0 hx (pc' := 4) (v := (.int i2)) hZ hown (host := "") (Or.inl (own_w hw 74 rfl)) Via.refl P0 (hb hby d12_1) rfl (fun T1 Y1 => ?_)
  exact own_retN Y1 hx hlk Bd.returns rfl (by simp) (hb hby d12_4) ⟨rfl, rfl⟩ (by decide) (by decide)
theorem d10_22 : decode method_2_code 22 = .ok (.aload_n 1, 1) := by decide +kernel
theorem d10_23 : decode method_2_code 23 = .ok (.invokevirtual 7, 3) := by decide +kernel
theorem d10_26 : decode method_2_code 26 = .ok (.if_icmp .ne 7, 3) := by decide +kernel
theorem d10_29 : decode method_2_code 29 = .ok (.iconst 1, 1) := by decide +kernel
theorem d10_30 : decode method_2_code 30 = .ok (.goto 4, 3) := by decide +kernel
theorem d10_34 : decode method_2_code 34 = .ok (.ireturn, 1) := by decide +kernel
theorem ef_10_VV (m : MethodId) (x0 : Value) (h0 : x0.isRef = true) (x1 : Value) (h1 : x1.isRef = true) : entryFrame m #[x0, x1] 2 = mkF m 0 #[.val x0, .val x1] [] := by
  rcases ref_cases h0 with rfl | ⟨a, rfl⟩ <;> rcases ref_cases h1 with rfl | ⟨a, rfl⟩
  all_goals rfl
set_option maxRecDepth 65536 in
set_option maxHeartbeats 40000000 in
theorem rm10_22 (l : Launch) (Z : State) (a0 : Array Value) (hw : ∀ d ∈ tables_1, d.before a0 Z = true) (ws : List Jvm.Cond) (v1 : Value) (h0 : Heap) (n0 : Nat) (Z0 : n0 ≤ Array.size h0) (P0 : own_Box Z h0 v1) :
    MetFree l (⟨zs7, "same", zs8⟩ : MethodName) (head1 (Jvm.Cond.code (⟨zs7, "same", zs8⟩ : MethodName) method_2_code 2 (some .boolean) :: ws) ({ frames := 1, cells := 0, slots := 0, locals := 13 } : Room)) (fun a U => a = #[v1, v1] ∧ Z.Warmed39 U.vm ∧ U.heap = h0) (fun _ _ _ _ _ => True) (fun _ U o U' => ∃ v L, o = .returned v ∧ own_QQ n0 (own_Same (some (.int (1 : Int32))) h0) v U'.heap L ∧ FrameEnd U o U' L ({ frames := 1, cells := 0, slots := 0, locals := 13 } : Room).cells ({ frames := 1, cells := 0, slots := 0, locals := 13 } : Room).slots) := by
  refine MetFree.of_bodySF (plainFor_of_name pn_com_example_napkintree_napkintree_balancing_NodeRemoveEntryPinLaw) hisR ?_
  intro p e s m args below meth c s₁ Bd hml0 hP hK
  obtain ⟨rfl, hZ, hh⟩ := hP
  have hx := Bd.exec
  have hby := Bd.bytes
  have hml : c.maxLocals = 2 := hml0
  have hown : s.vm.findClass zs7 = some m.cls := findClass_of_methodNamed Bd.named
  have hnm := (name_of_methodNamed Bd.named Bd.method).1
  have hlk : meth.locks = false := BodyLoose.notSynchronized Bd
  have Y0 : own_S p l e ({ frames := 1, cells := 0, slots := 0, locals := 13 } : Room) s m #[v1, v1] below meth c n0 s₁ h0 0 0 := ⟨[], Stand.of_body Bd, Fr.nil n0, by rw [← hh, Bd.state]; rfl, Z0⟩
  refine (?_ : own_Fin p e below _ _)
  refine own_st (fun t k => castTop (ef_10_VV m v1 (own_BoxRef P0) v1 (own_BoxRef P0)) k) ?_
  refine own_aloadN Y0 hx (pc' := 1) (hb hby d10_0) rfl rfl (own_BoxRef P0) ?_
  rcases P0 with hv1 | ⟨a_1, x_1, hv1, E_1, F_1⟩
  ·
    subst hv1
    refine own_ifnonnullNo Y0 hx (pc' := 4) (hb hby d10_1) rfl ?_
    refine own_aloadN Y0 hx (pc' := 5) (hb hby d10_4) rfl rfl rfl ?_
    refine own_ifnonnullNo Y0 hx (pc' := 8) (hb hby d10_5) rfl ?_
    refine own_iconst Y0 hx (pc' := 9) (x := (1 : Int32)) (hb hby d10_8) rfl (by decide) ?_
    refine own_goto Y0 hx (pc' := 13) (hb hby d10_9) (by decide) (by decide) ?_
    exact own_retN Y0 hx hlk Bd.returns rfl (by simp) (hb hby d10_13) ⟨rfl, rfl⟩ (by decide) (by decide)
  ·
    subst hv1
    refine own_ifnonnullYes Y0 hx (pc' := 14) (hb hby d10_1) (by decide) (by decide) ?_
    refine own_aloadN Y0 hx (pc' := 15) (hb hby d10_14) rfl rfl rfl ?_
    refine own_ifnullNo Y0 hx (pc' := 18) (hb hby d10_15) rfl ?_
    refine own_aloadN Y0 hx (pc' := 19) (hb hby d10_18) rfl rfl rfl ?_
    refine own_virtual Y0 hx (pc' := 22) (W := 0) (cl' := 0) (sl' := 0) (as' := []) (S' := []) (a := a_1) hZ hown (own_w hw 69 rfl) (own_w hw 70 rfl) (notFace_of_selects (args := #[]) (mvT hZ (own_w hw 72 rfl))) (own_w hw 72 rfl) (own_w hw 71 rfl) (own_w hw 3 rfl) (own_w hw 73 rfl) (by decide) E_1 (rm12_21 l Z a0 hw [] a_1 x_1 h0 n0 (own_sz Y0) F_1) (hb hby d10_19) rfl (by rw [hml]; rfl) rfl (lenOf pd___I rfl) rfl (by decide) (by decide) rfl rfl (by decide) (by decide) own_Same.sz (own_fixS (S2 := [(.int x_1)]) rfl (fun T2 Y2 => ?_))
    refine own_aloadN Y2 hx (pc' := 23) (hb hby d10_22) rfl rfl rfl ?_
    refine own_virtual Y2 hx (pc' := 26) (W := 1) (cl' := 0) (sl' := 0) (as' := []) (S' := [(.int x_1)]) (a := a_1) hZ hown (own_w hw 69 rfl) (own_w hw 70 rfl) (notFace_of_selects (args := #[]) (mvT hZ (own_w hw 72 rfl))) (own_w hw 72 rfl) (own_w hw 71 rfl) (own_w hw 3 rfl) (own_w hw 73 rfl) (by decide) E_1 (rm12_21 l Z a0 hw [] a_1 x_1 h0 n0 (own_sz Y2) F_1) (hb hby d10_23) rfl (by rw [hml]; rfl) rfl (lenOf pd___I rfl) rfl (by decide) (by decide) rfl rfl (by decide) (by decide) own_Same.sz (own_fixS (S2 := [(.int x_1), (.int x_1)]) rfl (fun T3 Y3 => ?_))
    refine own_icmpNo Y3 hx (pc' := 29) (hb hby d10_26) rfl (teq rfl).2 ?_
    refine own_iconst Y3 hx (pc' := 30) (x := (1 : Int32)) (hb hby d10_29) rfl (by decide) ?_
    refine own_goto Y3 hx (pc' := 34) (hb hby d10_30) (by decide) (by decide) ?_
    exact own_retN Y3 hx hlk Bd.returns rfl (by simp) (hb hby d10_34) ⟨rfl, rfl⟩ (by decide) (by decide)
set_option maxRecDepth 65536 in
set_option maxHeartbeats 40000000 in
theorem rm11_23 (l : Launch) (Z : State) (a0 : Array Value) (hw : ∀ d ∈ tables_1, d.before a0 Z = true) (ws : List Jvm.Cond) (a1 : Addr) (v2 : Value) (h0 : Heap) (n0 : Nat) (Z0 : n0 ≤ Array.size h0) (P0 : own_Box Z h0 v2) (P1 : Fld Z h0 a1 zs0 "value0" zs1 v2) :
    MetFree l (⟨zs0, "value", zs6⟩ : MethodName) (head1 (Jvm.Cond.code (⟨zs0, "value", zs6⟩ : MethodName) prog_25_method_20_code 3 (some (.object zs2)) :: ws) ({ frames := 0, cells := 0, slots := 0, locals := 0 } : Room)) (fun a U => a = #[(.ref a1), (.int (0 : Int32))] ∧ Z.Warmed39 U.vm ∧ U.heap = h0) (fun _ _ _ _ _ => True) (fun _ U o U' => ∃ v L, o = .returned v ∧ own_QQ n0 (own_Same (some v2) h0) v U'.heap L ∧ FrameEnd U o U' L ({ frames := 0, cells := 0, slots := 0, locals := 0 } : Room).cells ({ frames := 0, cells := 0, slots := 0, locals := 0 } : Room).slots) := by
  refine MetFree.of_bodySF (plainFor_of_name pn_com_example_napkintree_napkintree_balancing_MultiwayTree_Node) hisR ?_
  intro p e s m args below meth c s₁ Bd hml0 hP hK
  obtain ⟨rfl, hZ, hh⟩ := hP
  have hx := Bd.exec
  have hby := Bd.bytes
  have hml : c.maxLocals = 3 := hml0
  have hown : s.vm.findClass zs0 = some m.cls := findClass_of_methodNamed Bd.named
  have hnm := (name_of_methodNamed Bd.named Bd.method).1
  have hlk : meth.locks = false := BodyLoose.notSynchronized Bd
  have Y0 : own_S p l e ({ frames := 0, cells := 0, slots := 0, locals := 0 } : Room) s m #[(.ref a1), (.int (0 : Int32))] below meth c n0 s₁ h0 0 0 := ⟨[], Stand.of_body Bd, Fr.nil n0, by rw [← hh, Bd.state]; rfl, Z0⟩
  refine (?_ : own_Fin p e below _ _)
  refine own_st (fun t k => castTop (ef_11_RI m a1 (0 : Int32)) k) ?_
  refine own_iloadN Y0 hx (pc' := 1) (hb hby d11_0) rfl rfl ?_
  refine own_tswIn Y0 hx (pc' := 28) (o := 27) (hb hby d11_1) (by decide) (by decide) (by decide) (by decide) ?_
  refine own_aloadN Y0 hx (pc' := 29) (hb hby d11_28) rfl rfl rfl ?_
  refine own_getF Y0 hx (pc' := 32) (v := v2) hZ hown (host := "") (Or.inl (own_w hw 32 rfl)) Via.refl P1 (hb hby d11_29) rfl (fun T1 Y1 => ?_)
  refine own_goto Y1 hx (pc' := 58) (hb hby d11_32) (by decide) (by decide) ?_
  refine own_astoreN Y1 hx (pc' := 59) (Ls' := #[.val (.ref a1), .val (.int (0 : Int32)), .val v2]) (hb hby d11_58) rfl (own_BoxRef P0) (own_stV (own_BoxRef P0) rfl (Or.inl rfl) rfl) ?_
  refine own_aloadN Y1 hx (pc' := 60) (hb hby d11_59) rfl rfl (own_BoxRef P0) ?_
  exact own_retA Y1 hx hlk Bd.returns (own_narR rfl (own_BoxRef P0)) rfl (own_BoxRef P0) (hb hby d11_60) ⟨rfl, rfl⟩ (by decide) (by decide)
set_option maxRecDepth 65536 in
set_option maxHeartbeats 40000000 in
theorem rm0_c20 (l : Launch) (Z : State) (a0 : Array Value) (hw : ∀ d ∈ tables_1, d.before a0 Z = true) (ws : List Jvm.Cond) (w_NULL_KEY : Addr) (w_cache : Addr) (p0 : Int32) (p1 : Int32) (p2 : Int32) (p3 : Int32) (p4 : Int32) (p5 : Int32) (h0 : Heap) (n0 : Nat) (Z0 : n0 ≤ Array.size h0) (PN : own_Pins Z h0 w_NULL_KEY w_cache) (q0 : ((p3 &&& (2147483647 : Int32)) % (3 : Int32)) = (1 : Int32)) (q1 : ((p4 &&& (2147483647 : Int32)) % (2 : Int32)) = (0 : Int32)) :
    MetFree l x (head1 (Jvm.Cond.code x code maxLocals ret :: ws) room_1) (fun a U => a = #[(.int p0), (.int p1), (.int p2), (.int p3), (.int p4), (.int p5)] ∧ Z.Warmed39 U.vm ∧ U.heap = h0) (fun _ _ _ _ _ => True) (fun _ U o U' => ∃ v L, o = .returned v ∧ own_QQ n0 (own_R (some (.int (1 : Int32))) (fun _ => True)) v U'.heap L ∧ FrameEnd U o U' L room_1.cells room_1.slots) := by
  refine MetFree.of_bodySF (plainFor_of_name pn_com_example_napkintree_napkintree_balancing_NodeRemoveEntryPinLaw) hisR ?_
  intro p e s m args below meth c s₁ Bd hml0 hP hK
  obtain ⟨rfl, hZ, hh⟩ := hP
  have hx := Bd.exec
  have hby := Bd.bytes
  have hml : c.maxLocals = 21 := hml0
  have hown : s.vm.findClass zs7 = some m.cls := findClass_of_methodNamed Bd.named
  have hnm := (name_of_methodNamed Bd.named Bd.method).1
  have hlk : meth.locks = false := BodyLoose.notSynchronized Bd
  have Y0 : own_S p l e room_1 s m #[(.int p0), (.int p1), (.int p2), (.int p3), (.int p4), (.int p5)] below meth c n0 s₁ h0 0 0 := ⟨[], Stand.of_body Bd, Fr.nil n0, by rw [← hh, Bd.state]; rfl, Z0⟩
  obtain ⟨S_NULL_KEY, E_NULL_KEY, S_high, S_cache, H_cache⟩ := PN
  refine (?_ : own_Fin p e below _ _)
  refine own_st (fun t k => castTop (ef_0_IIIIII m p0 p1 p2 p3 p4 p5) k) ?_
  show own_Fin p e below (own_KL s n0) _
  refine own_iloadN Y0 hx (pc' := 1) (hb hby at_0) rfl rfl ?_
  refine own_ldcI Y0 hx (pc' := 3) hZ hown (own_w hw 0 rfl) (hb hby at_1) rfl ?_
  refine own_iand Y0 hx (pc' := 4) (hb hby at_3) rfl (z := (p3 &&& (2147483647 : Int32))) rfl ?_
  refine own_iconst Y0 hx (pc' := 5) (x := (3 : Int32)) (hb hby at_4) rfl (by decide) ?_
  refine own_irem Y0 hx (pc' := 6) (hb hby at_5) rfl (by decide) (z := (1 : Int32)) q0 ?_
  refine own_iconst Y0 hx (pc' := 7) (x := (1 : Int32)) (hb hby at_6) rfl (by decide) ?_
  refine own_iadd Y0 hx (pc' := 8) (hb hby at_7) rfl (z := (2 : Int32)) (by decide) ?_
  refine own_istore Y0 hx (pc' := 10) (Ls' := #[.val (.int p0), .val (.int p1), .val (.int p2), .val (.int p3), .val (.int p4), .val (.int p5), .val (.int (2 : Int32)), .unset, .unset, .unset, .unset, .unset, .unset, .unset, .unset, .unset, .unset, .unset, .unset, .unset, .unset]) (hb hby at_8) rfl rfl ?_
  refine own_iload Y0 hx (pc' := 12) (hb hby at_10) rfl rfl ?_
  refine own_ldcI Y0 hx (pc' := 14) hZ hown (own_w hw 0 rfl) (hb hby at_12) rfl ?_
  refine own_iand Y0 hx (pc' := 15) (hb hby at_14) rfl (z := (p4 &&& (2147483647 : Int32))) rfl ?_
  refine own_iload Y0 hx (pc' := 17) (hb hby at_15) rfl rfl ?_
  refine own_irem Y0 hx (pc' := 18) (hb hby at_17) rfl (by decide) (z := (0 : Int32)) q1 ?_
  refine own_istore Y0 hx (pc' := 20) (Ls' := #[.val (.int p0), .val (.int p1), .val (.int p2), .val (.int p3), .val (.int p4), .val (.int p5), .val (.int (2 : Int32)), .val (.int (0 : Int32)), .unset, .unset, .unset, .unset, .unset, .unset, .unset, .unset, .unset, .unset, .unset, .unset, .unset]) (hb hby at_18) rfl rfl ?_
  refine own_iload Y0 hx (pc' := 22) (hb hby at_20) rfl rfl ?_
  refine own_iconst Y0 hx (pc' := 23) (x := (1 : Int32)) (hb hby at_22) rfl (by decide) ?_
  refine own_iand Y0 hx (pc' := 24) (hb hby at_23) rfl (z := (p5 &&& (1 : Int32))) rfl ?_
  have J35 : ∀ (T' : State) (h' : Heap) (k0 : Value), own_S p l e room_1 s m #[(.int p0), (.int p1), (.int p2), (.int p3), (.int p4), (.int p5)] below meth c n0 T' h' 1 1 → own_Kp h0 h' [] → own_Box Z h' k0 → own_Fin p e below (own_KL s n0) (T'.setTop (mkF m 35 #[.val (.int p0), .val (.int p1), .val (.int p2), .val (.int p3), .val (.int p4), .val (.int p5), .val (.int (2 : Int32)), .val (.int (0 : Int32)), .unset, .unset, .unset, .unset, .unset, .unset, .unset, .unset, .unset, .unset, .unset, .unset, .unset] [k0])) := by
    intro T1 h1 k0 Y1 K1 B1
    have hr_k0 : k0.isRef = true := own_BoxRef B1
    refine own_astore Y1 hx (pc' := 37) (Ls' := #[.val (.int p0), .val (.int p1), .val (.int p2), .val (.int p3), .val (.int p4), .val (.int p5), .val (.int (2 : Int32)), .val (.int (0 : Int32)), .val k0, .unset, .unset, .unset, .unset, .unset, .unset, .unset, .unset, .unset, .unset, .unset, .unset]) (hb hby at_35) rfl hr_k0 (own_stV hr_k0 rfl (Or.inl rfl) rfl) ?_
    refine own_iload Y1 hx (pc' := 39) (hb hby at_37) rfl rfl ?_
    refine own_iconst Y1 hx (pc' := 40) (x := (2 : Int32)) (hb hby at_39) rfl (by decide) ?_
    refine own_iand Y1 hx (pc' := 41) (hb hby at_40) rfl (z := (p5 &&& (2 : Int32))) rfl ?_
    have J52 : ∀ (T' : State) (h' : Heap) (k1 : Value), own_S p l e room_1 s m #[(.int p0), (.int p1), (.int p2), (.int p3), (.int p4), (.int p5)] below meth c n0 T' h' 2 2 → own_Kp h1 h' [] → own_Box Z h' k1 → own_Fin p e below (own_KL s n0) (T'.setTop (mkF m 52 #[.val (.int p0), .val (.int p1), .val (.int p2), .val (.int p3), .val (.int p4), .val (.int p5), .val (.int (2 : Int32)), .val (.int (0 : Int32)), .val k0, .unset, .unset, .unset, .unset, .unset, .unset, .unset, .unset, .unset, .unset, .unset, .unset] [k1])) := by
      intro T2 h2 k1 Y2 K2 B2
      have hr_k1 : k1.isRef = true := own_BoxRef B2
      refine own_astore Y2 hx (pc' := 54) (Ls' := #[.val (.int p0), .val (.int p1), .val (.int p2), .val (.int p3), .val (.int p4), .val (.int p5), .val (.int (2 : Int32)), .val (.int (0 : Int32)), .val k0, .val k1, .unset, .unset, .unset, .unset, .unset, .unset, .unset, .unset, .unset, .unset, .unset]) (hb hby at_52) rfl hr_k1 (own_stV hr_k1 rfl (Or.inl rfl) rfl) ?_
      refine own_iload Y2 hx (pc' := 56) (hb hby at_54) rfl rfl ?_
      refine own_iconst Y2 hx (pc' := 57) (x := (4 : Int32)) (hb hby at_56) rfl (by decide) ?_
      refine own_iand Y2 hx (pc' := 58) (hb hby at_57) rfl (z := (p5 &&& (4 : Int32))) rfl ?_
      have J69 : ∀ (T' : State) (h' : Heap) (k2 : Value), own_S p l e room_1 s m #[(.int p0), (.int p1), (.int p2), (.int p3), (.int p4), (.int p5)] below meth c n0 T' h' 3 3 → own_Kp h2 h' [] → own_Box Z h' k2 → own_Fin p e below (own_KL s n0) (T'.setTop (mkF m 69 #[.val (.int p0), .val (.int p1), .val (.int p2), .val (.int p3), .val (.int p4), .val (.int p5), .val (.int (2 : Int32)), .val (.int (0 : Int32)), .val k0, .val k1, .unset, .unset, .unset, .unset, .unset, .unset, .unset, .unset, .unset, .unset, .unset] [k2])) := by
        intro T3 h3 k2 Y3 K3 B3
        have hr_k2 : k2.isRef = true := own_BoxRef B3
        refine own_astore Y3 hx (pc' := 71) (Ls' := #[.val (.int p0), .val (.int p1), .val (.int p2), .val (.int p3), .val (.int p4), .val (.int p5), .val (.int (2 : Int32)), .val (.int (0 : Int32)), .val k0, .val k1, .val k2, .unset, .unset, .unset, .unset, .unset, .unset, .unset, .unset, .unset, .unset]) (hb hby at_69) rfl hr_k2 (own_stV hr_k2 rfl (Or.inl rfl) rfl) ?_
        refine own_iload Y3 hx (pc' := 73) (hb hby at_71) rfl rfl ?_
        refine own_bipush Y3 hx (pc' := 75) (x := (8 : Int32)) (hb hby at_73) rfl (by decide) ?_
        refine own_iand Y3 hx (pc' := 76) (hb hby at_75) rfl (z := (p5 &&& (8 : Int32))) rfl ?_
        have J87 : ∀ (T' : State) (h' : Heap) (v0 : Value), own_S p l e room_1 s m #[(.int p0), (.int p1), (.int p2), (.int p3), (.int p4), (.int p5)] below meth c n0 T' h' 4 4 → own_Kp h3 h' [] → own_Box Z h' v0 → own_Fin p e below (own_KL s n0) (T'.setTop (mkF m 87 #[.val (.int p0), .val (.int p1), .val (.int p2), .val (.int p3), .val (.int p4), .val (.int p5), .val (.int (2 : Int32)), .val (.int (0 : Int32)), .val k0, .val k1, .val k2, .unset, .unset, .unset, .unset, .unset, .unset, .unset, .unset, .unset, .unset] [v0])) := by
          intro T4 h4 v0 Y4 K4 B4
          have hr_v0 : v0.isRef = true := own_BoxRef B4
          refine own_astore Y4 hx (pc' := 89) (Ls' := #[.val (.int p0), .val (.int p1), .val (.int p2), .val (.int p3), .val (.int p4), .val (.int p5), .val (.int (2 : Int32)), .val (.int (0 : Int32)), .val k0, .val k1, .val k2, .val v0, .unset, .unset, .unset, .unset, .unset, .unset, .unset, .unset, .unset]) (hb hby at_87) rfl hr_v0 (own_stV hr_v0 rfl (Or.inl rfl) rfl) ?_
          refine own_iload Y4 hx (pc' := 91) (hb hby at_89) rfl rfl ?_
          refine own_bipush Y4 hx (pc' := 93) (x := (16 : Int32)) (hb hby at_91) rfl (by decide) ?_
          refine own_iand Y4 hx (pc' := 94) (hb hby at_93) rfl (z := (p5 &&& (16 : Int32))) rfl ?_
          have J106 : ∀ (T' : State) (h' : Heap) (v1 : Value), own_S p l e room_1 s m #[(.int p0), (.int p1), (.int p2), (.int p3), (.int p4), (.int p5)] below meth c n0 T' h' 5 5 → own_Kp h4 h' [] → own_Box Z h' v1 → own_Fin p e below (own_KL s n0) (T'.setTop (mkF m 106 #[.val (.int p0), .val (.int p1), .val (.int p2), .val (.int p3), .val (.int p4), .val (.int p5), .val (.int (2 : Int32)), .val (.int (0 : Int32)), .val k0, .val k1, .val k2, .val v0, .unset, .unset, .unset, .unset, .unset, .unset, .unset, .unset, .unset] [v1])) := by
            intro T5 h5 v1 Y5 K5 B5
            have hr_v1 : v1.isRef = true := own_BoxRef B5
            refine own_astore Y5 hx (pc' := 108) (Ls' := #[.val (.int p0), .val (.int p1), .val (.int p2), .val (.int p3), .val (.int p4), .val (.int p5), .val (.int (2 : Int32)), .val (.int (0 : Int32)), .val k0, .val k1, .val k2, .val v0, .val v1, .unset, .unset, .unset, .unset, .unset, .unset, .unset, .unset]) (hb hby at_106) rfl hr_v1 (own_stV hr_v1 rfl (Or.inl rfl) rfl) ?_
            refine own_iload Y5 hx (pc' := 110) (hb hby at_108) rfl rfl ?_
            refine own_bipush Y5 hx (pc' := 112) (x := (32 : Int32)) (hb hby at_110) rfl (by decide) ?_
            refine own_iand Y5 hx (pc' := 113) (hb hby at_112) rfl (z := (p5 &&& (32 : Int32))) rfl ?_
            have J125 : ∀ (T' : State) (h' : Heap) (v2 : Value), own_S p l e room_1 s m #[(.int p0), (.int p1), (.int p2), (.int p3), (.int p4), (.int p5)] below meth c n0 T' h' 6 6 → own_Kp h5 h' [] → own_Box Z h' v2 → own_Fin p e below (own_KL s n0) (T'.setTop (mkF m 125 #[.val (.int p0), .val (.int p1), .val (.int p2), .val (.int p3), .val (.int p4), .val (.int p5), .val (.int (2 : Int32)), .val (.int (0 : Int32)), .val k0, .val k1, .val k2, .val v0, .val v1, .unset, .unset, .unset, .unset, .unset, .unset, .unset, .unset] [v2])) := by
              intro T6 h6 v2 Y6 K6 B6
              have hr_v2 : v2.isRef = true := own_BoxRef B6
              refine own_astore Y6 hx (pc' := 127) (Ls' := #[.val (.int p0), .val (.int p1), .val (.int p2), .val (.int p3), .val (.int p4), .val (.int p5), .val (.int (2 : Int32)), .val (.int (0 : Int32)), .val k0, .val k1, .val k2, .val v0, .val v1, .val v2, .unset, .unset, .unset, .unset, .unset, .unset, .unset]) (hb hby at_125) rfl hr_v2 (own_stV hr_v2 rfl (Or.inl rfl) rfl) ?_
              refine own_iconst Y6 hx (pc' := 128) (x := (4 : Int32)) (hb hby at_127) rfl (by decide) ?_
              have KC8 : own_Kp h0 h6 [] := (((((((own_Kp.refl h0 []).trans K1 own_all0).trans K2 own_all0).trans K3 own_all0).trans K4 own_all0).trans K5 own_all0).trans K6 own_all0)
              refine own_anew Y6 hx (pc' := 131) (cap := 4) (cl' := 7) (sl' := 10) (vs := [.null, .null, .null, .null]) hZ hown (own_w hw 8 rfl) (own_w hw 9 rfl) (hb hby at_128) rfl (by decide) (by decide) (by decide) rfl rfl (by decide) (by decide) rfl (fun T7 h7 b7 k7 Y7 K7 le7 V7 O7 => ?_)
              have sz_b7 : Array.size h0 ≤ b7 := Nat.le_trans KC8.1 le7
              refine own_astore Y7 hx (pc' := 133) (Ls' := #[.val (.int p0), .val (.int p1), .val (.int p2), .val (.int p3), .val (.int p4), .val (.int p5), .val (.int (2 : Int32)), .val (.int (0 : Int32)), .val k0, .val k1, .val k2, .val v0, .val v1, .val v2, .val (.ref b7), .unset, .unset, .unset, .unset, .unset, .unset]) (hb hby at_131) rfl rfl rfl ?_
              refine own_iconst Y7 hx (pc' := 134) (x := (4 : Int32)) (hb hby at_133) rfl (by decide) ?_
              have KC10 : own_Kp h0 h7 [] := (KC8.trans K7 own_all0)
              refine own_anew Y7 hx (pc' := 137) (cap := 4) (cl' := 8) (sl' := 14) (vs := [.null, .null, .null, .null]) hZ hown (own_w hw 8 rfl) (own_w hw 9 rfl) (hb hby at_134) rfl (by decide) (by decide) (by decide) rfl rfl (by decide) (by decide) rfl (fun T9 h9 b9 k9 Y9 K9 le9 V9 O9 => ?_)
              have sz_b9 : Array.size h0 ≤ b9 := Nat.le_trans KC10.1 le9
              refine own_astore Y9 hx (pc' := 139) (Ls' := #[.val (.int p0), .val (.int p1), .val (.int p2), .val (.int p3), .val (.int p4), .val (.int p5), .val (.int (2 : Int32)), .val (.int (0 : Int32)), .val k0, .val k1, .val k2, .val v0, .val v1, .val v2, .val (.ref b7), .val (.ref b9), .unset, .unset, .unset, .unset, .unset]) (hb hby at_137) rfl rfl rfl ?_
              refine own_aload Y9 hx (pc' := 141) (hb hby at_139) rfl rfl rfl ?_
              refine own_iconst Y9 hx (pc' := 142) (x := (0 : Int32)) (hb hby at_141) rfl (by decide) ?_
              refine own_aload Y9 hx (pc' := 144) (hb hby at_142) rfl rfl hr_k0 ?_
              have F12 := (own_A V7 K9 own_out0)
              have F13 := (own_B (own_B (own_B (own_B (own_B (own_B (own_B B1 K2 own_off0) K3 own_off0) K4 own_off0) K5 own_off0) K6 own_off0) K7 own_off0) K9 own_off0)
              refine own_aast Y9 hx (pc' := 145) (i := 0) (vs' := [k0, .null, .null, .null]) hZ F12 (by decide) rfl (by show 0 < 4; decide) rfl (fun _ A q => own_stoB A q O7 F13) (own_fitR rfl hr_k0) (Nat.le_trans Z0 sz_b7) rfl (hb hby at_144) rfl (fun T11 h11 Y11 K11 V11 => ?_)
              refine own_aload Y11 hx (pc' := 147) (hb hby at_145) rfl rfl rfl ?_
              refine own_iconst Y11 hx (pc' := 148) (x := (0 : Int32)) (hb hby at_147) rfl (by decide) ?_
              refine own_aload Y11 hx (pc' := 150) (hb hby at_148) rfl rfl hr_v0 ?_
              have D15 : b7 ≠ b9 := (Nat.ne_of_lt (Nat.lt_of_lt_of_le V7.lt le9))
              have F16 := (own_A V9 K11 (own_out (Ne.symm D15) own_out0))
              have F17 := (own_B (own_B B4 K5 own_off0) K6 own_off0)
              have O18 := (own_offN F17 le7)
              have F19 := (own_B (own_B (own_B (own_B (own_B B4 K5 own_off0) K6 own_off0) K7 own_off0) K9 own_off0) K11 (own_offS O18 own_off0))
              refine own_aast Y11 hx (pc' := 151) (i := 0) (vs' := [v0, .null, .null, .null]) hZ F16 (by decide) rfl (by show 0 < 4; decide) rfl (fun _ A q => own_stoB A q O9 F19) (own_fitR rfl hr_v0) (Nat.le_trans Z0 sz_b9) rfl (hb hby at_150) rfl (fun T14 h14 Y14 K14 V14 => ?_)
              refine own_iload Y14 hx (pc' := 153) (hb hby at_151) rfl rfl ?_
              refine own_iconst Y14 hx (pc' := 154) (x := (2 : Int32)) (hb hby at_153) rfl (by decide) ?_
              refine own_icmpNo Y14 hx (pc' := 157) (hb hby at_154) rfl (by decide) ?_
              refine own_aload Y14 hx (pc' := 159) (hb hby at_157) rfl rfl rfl ?_
              refine own_iconst Y14 hx (pc' := 160) (x := (1 : Int32)) (hb hby at_159) rfl (by decide) ?_
              refine own_aload Y14 hx (pc' := 162) (hb hby at_160) rfl rfl hr_k1 ?_
              have F21 := (own_A V11 K14 (own_out D15 own_out0))
              have F22 := (own_B (own_B (own_B (own_B B2 K3 own_off0) K4 own_off0) K5 own_off0) K6 own_off0)
              have O23 := (own_offN F22 le7)
              have F24 := (own_B F22 K7 own_off0)
              have O25 := (own_offN F24 le9)
              have F26 := (own_B (own_B (own_B (own_B (own_B (own_B (own_B (own_B B2 K3 own_off0) K4 own_off0) K5 own_off0) K6 own_off0) K7 own_off0) K9 own_off0) K11 (own_offS O23 own_off0)) K14 (own_offS O25 own_off0))
              refine own_aast Y14 hx (pc' := 163) (i := 1) (vs' := [k0, k1, .null, .null]) hZ F21 (by decide) rfl (by show 1 < 4; decide) rfl (fun _ A q => own_stoB A q O7 F26) (own_fitR rfl hr_k1) (Nat.le_trans Z0 sz_b7) rfl (hb hby at_162) rfl (fun T20 h20 Y20 K20 V20 => ?_)
              refine own_aload Y20 hx (pc' := 165) (hb hby at_163) rfl rfl rfl ?_
              refine own_iconst Y20 hx (pc' := 166) (x := (1 : Int32)) (hb hby at_165) rfl (by decide) ?_
              refine own_aload Y20 hx (pc' := 168) (hb hby at_166) rfl rfl hr_v1 ?_
              have F28 := (own_A V14 K20 (own_out (Ne.symm D15) own_out0))
              have F29 := (own_B B5 K6 own_off0)
              have O30 := (own_offN F29 le7)
              have F31 := (own_B F29 K7 own_off0)
              have O32 := (own_offN F31 le9)
              have F33 := (own_B (own_B (own_B (own_B (own_B (own_B B5 K6 own_off0) K7 own_off0) K9 own_off0) K11 (own_offS O30 own_off0)) K14 (own_offS O32 own_off0)) K20 (own_offS O30 own_off0))
              refine own_aast Y20 hx (pc' := 169) (i := 1) (vs' := [v0, v1, .null, .null]) hZ F28 (by decide) rfl (by show 1 < 4; decide) rfl (fun _ A q => own_stoB A q O9 F33) (own_fitR rfl hr_v1) (Nat.le_trans Z0 sz_b9) rfl (hb hby at_168) rfl (fun T27 h27 Y27 K27 V27 => ?_)
              refine own_iload Y27 hx (pc' := 171) (hb hby at_169) rfl rfl ?_
              refine own_iconst Y27 hx (pc' := 172) (x := (3 : Int32)) (hb hby at_171) rfl (by decide) ?_
              refine own_icmpYes Y27 hx (pc' := 187) (hb hby at_172) (by decide) (by decide) (by decide) ?_
              have KC35 : own_Kp h0 h27 [] := (((((KC10.trans K9 own_all0).trans K11 (own_allS (Or.inr sz_b7) own_all0)).trans K14 (own_allS (Or.inr sz_b9) own_all0)).trans K20 (own_allS (Or.inr sz_b7) own_all0)).trans K27 (own_allS (Or.inr sz_b9) own_all0))
              refine own_new Y27 hx (pc' := 190) (cl' := 9) (sl' := 25) hZ hown (own_w hw 11 rfl) (own_w hw 12 rfl) (own_w hw 13 rfl) (hb hby at_187) rfl rfl rfl (by decide) (by decide) (fun T34 h34 b34 Y34 K34 le34 E34 D34 => ?_)
              have sz_b34 : Array.size h0 ≤ b34 := Nat.le_trans KC35.1 le34
              refine own_dup Y34 hx (pc' := 191) (hb hby at_190) rfl rfl ?_
              refine own_special Y34 hx (pc' := 194) (W := 1) (cl' := 9) (sl' := 25) (as' := []) (S' := [(.ref b34)]) (a := b34) rfl hZ hown (own_w hw 14 rfl) (own_w hw 15 rfl) (own_w hw 13 rfl) (own_w hw 16 rfl) (by decide) (rm2_1 l Z a0 hw [] b34 h34 n0 (own_sz Y34)) (hb hby at_191) rfl (by rw [hml]; rfl) rfl (lenOf pd___V rfl) rfl (by decide) (by decide) rfl rfl (by decide) (by decide) own_Same.sz (own_fixS (S2 := [(.ref b34)]) rfl (fun T36 Y36 => ?_))
              refine own_astore Y36 hx (pc' := 196) (Ls' := #[.val (.int p0), .val (.int p1), .val (.int p2), .val (.int p3), .val (.int p4), .val (.int p5), .val (.int (2 : Int32)), .val (.int (0 : Int32)), .val k0, .val k1, .val k2, .val v0, .val v1, .val v2, .val (.ref b7), .val (.ref b9), .val (.ref b34), .unset, .unset, .unset, .unset]) (hb hby at_194) rfl rfl rfl ?_
              refine own_aload Y36 hx (pc' := 198) (hb hby at_196) rfl rfl rfl ?_
              refine own_iconst Y36 hx (pc' := 199) (x := (0 : Int32)) (hb hby at_198) rfl (by decide) ?_
              refine own_aload Y36 hx (pc' := 201) (hb hby at_199) rfl rfl hr_k0 ?_
              refine own_aload Y36 hx (pc' := 203) (hb hby at_201) rfl rfl hr_v0 ?_
              have F38 := (own_B (own_B (own_B (own_B (own_B B1 K2 own_off0) K3 own_off0) K4 own_off0) K5 own_off0) K6 own_off0)
              have O39 := (own_offN F38 le7)
              have F40 := (own_B F38 K7 own_off0)
              have O41 := (own_offN F40 le9)
              have F42 := (own_B (own_B (own_B (own_B (own_B F13 K11 (own_offS O39 own_off0)) K14 (own_offS O41 own_off0)) K20 (own_offS O39 own_off0)) K27 (own_offS O41 own_off0)) K34 own_off0)
              have F43 := (own_B F17 K7 own_off0)
              have O44 := (own_offN F43 le9)
              have F45 := (own_B (own_B (own_B (own_B F19 K14 (own_offS O44 own_off0)) K20 (own_offS O18 own_off0)) K27 (own_offS O44 own_off0)) K34 own_off0)
              have F46 := (own_St (own_St (own_St (own_St (own_St (own_St (own_St (own_St (own_St (own_St (own_St (own_St (own_St S_NULL_KEY K1 own_all0) K2 own_all0) K3 own_all0) K4 own_all0) K5 own_all0) K6 own_all0) K7 own_all0) K9 own_all0) K11 (own_allS (own_plainA F12) own_all0)) K14 (own_allS (own_plainA F16) own_all0)) K20 (own_allS (own_plainA F21) own_all0)) K27 (own_allS (own_plainA F28) own_all0)) K34 own_all0)
              have F47 := (own_E (own_E (own_E (own_E (own_E (own_E (own_E (own_E (own_E (own_E (own_E (own_E (own_E E_NULL_KEY K1) K2) K3) K4) K5) K6) K7) K9) K11) K14) K20) K27) K34)
              refine own_virtual Y36 hx (pc' := 206) (W := 0) (cl' := 9) (sl' := 25) (as' := [(.int (0 : Int32)), k0, v0]) (S' := []) (a := b34) hZ hown (own_w hw 20 rfl) (own_w hw 21 rfl) (notFace_of_selects (args := #[]) (mvT hZ (own_w hw 23 rfl))) (own_w hw 23 rfl) (own_w hw 22 rfl) (own_w hw 13 rfl) (own_w hw 24 rfl) (by decide) E34 (rm4_3 l Z a0 hw [] b34 k0 v0 w_NULL_KEY h34 n0 (own_sz Y36) F42 F45 F46 F47 (D34 (Or.inl (own_w hw 31 rfl)) (ty := (.object zs2)) (by decide)) E34 (Nat.le_trans Z0 sz_b34) (D34 (Or.inl (own_w hw 33 rfl)) (ty := (.object zs2)) (by decide))) (hb hby at_203) rfl (by rw [hml]; rfl) rfl (lenOf pd__ILjava_lang_Object_Ljava_lang_Object__V rfl) rfl (by decide) (by decide) rfl rfl (by decide) (by decide) P4_3_sz (own_fixR (S2 := []) rfl (fun T37 h37 Y37 R37 => ?_))
              obtain ⟨K37, G37_0, G37_1⟩ := R37
              refine own_iload Y37 hx (pc' := 208) (hb hby at_206) rfl rfl ?_
              refine own_iconst Y37 hx (pc' := 209) (x := (2 : Int32)) (hb hby at_208) rfl (by decide) ?_
              refine own_icmpNo Y37 hx (pc' := 212) (hb hby at_209) rfl (by decide) ?_
              refine own_aload Y37 hx (pc' := 214) (hb hby at_212) rfl rfl rfl ?_
              refine own_iconst Y37 hx (pc' := 215) (x := (1 : Int32)) (hb hby at_214) rfl (by decide) ?_
              refine own_aload Y37 hx (pc' := 217) (hb hby at_215) rfl rfl hr_k1 ?_
              refine own_aload Y37 hx (pc' := 219) (hb hby at_217) rfl rfl hr_v1 ?_
              have F49 := (own_E E34 K37)
              have F50 := (own_B (own_B F26 K20 (own_offS O23 own_off0)) K27 (own_offS O25 own_off0))
              have O51 := (own_offN F50 le34)
              have F52 := (own_B (own_B (own_B (own_B F26 K20 (own_offS O23 own_off0)) K27 (own_offS O25 own_off0)) K34 own_off0) K37 (own_offS O51 (own_offS O51 own_off0)))
              have F53 := (own_B F33 K27 (own_offS O32 own_off0))
              have O54 := (own_offN F53 le34)
              have F55 := (own_B (own_B (own_B F33 K27 (own_offS O32 own_off0)) K34 own_off0) K37 (own_offS O54 (own_offS O54 own_off0)))
              have F56 := (own_St F46 K37 (own_allS (own_plain E34) (own_allS (own_plain E34) own_all0)))
              have F57 := (own_E F47 K37)
              have F58 := (own_F (v := .null) (D34 (Or.inl (own_w hw 35 rfl)) (ty := (.object zs2)) (by decide)) K37 (own_nr (sl_2 hw) (own_nr (sl_3 hw) own_nin0)))
              have F59 := (own_F (v := .null) (D34 (Or.inl (own_w hw 37 rfl)) (ty := (.object zs2)) (by decide)) K37 (own_nr (sl_4 hw) (own_nr (sl_5 hw) own_nin0)))
              refine own_virtual Y37 hx (pc' := 222) (W := 0) (cl' := 9) (sl' := 25) (as' := [(.int (1 : Int32)), k1, v1]) (S' := []) (a := b34) hZ hown (own_w hw 20 rfl) (own_w hw 21 rfl) (notFace_of_selects (args := #[]) (mvT hZ (own_w hw 23 rfl))) (own_w hw 23 rfl) (own_w hw 22 rfl) (own_w hw 13 rfl) (own_w hw 24 rfl) (by decide) F49 (rm4_16 l Z a0 hw [] b34 k1 v1 w_NULL_KEY h37 n0 (own_sz Y37) F52 F55 F56 F57 F58 F49 (Nat.le_trans Z0 sz_b34) F59) (hb hby at_219) rfl (by rw [hml]; rfl) rfl (lenOf pd__ILjava_lang_Object_Ljava_lang_Object__V rfl) rfl (by decide) (by decide) rfl rfl (by decide) (by decide) P4_16_sz (own_fixR (S2 := []) rfl (fun T48 h48 Y48 R48 => ?_))
              obtain ⟨K48, G48_0, G48_1⟩ := R48
              refine own_iload Y48 hx (pc' := 224) (hb hby at_222) rfl rfl ?_
              refine own_iconst Y48 hx (pc' := 225) (x := (3 : Int32)) (hb hby at_224) rfl (by decide) ?_
              refine own_icmpYes Y48 hx (pc' := 238) (hb hby at_225) (by decide) (by decide) (by decide) ?_
              refine own_aload Y48 hx (pc' := 240) (hb hby at_238) rfl rfl rfl ?_
              refine own_iload Y48 hx (pc' := 242) (hb hby at_240) rfl rfl ?_
              have F61 := (own_E F49 K48)
              have F62 := (own_B F52 K48 (own_offS O51 (own_offS O51 own_off0)))
              have F63 := (own_F (v := (.ref (own_sa w_NULL_KEY k0))) G37_0 K48 (own_nr (sl_16 hw) (own_nr (sl_17 hw) own_nin0)))
              have F64 := (own_B (own_B (own_B (own_B F13 K11 (own_offS O39 own_off0)) K14 (own_offS O41 own_off0)) K20 (own_offS O39 own_off0)) K27 (own_offS O41 own_off0))
              have O65 := (own_offN F64 le34)
              have F66 := (own_B (own_B F42 K37 (own_offS O65 (own_offS O65 own_off0))) K48 (own_offS O65 (own_offS O65 own_off0)))
              have F67 := (own_B F55 K48 (own_offS O54 (own_offS O54 own_off0)))
              have F68 := (own_F (v := v0) G37_1 K48 (own_nr (sl_20 hw) (own_nr (sl_21 hw) own_nin0)))
              have F69 := (own_B (own_B (own_B F19 K14 (own_offS O44 own_off0)) K20 (own_offS O18 own_off0)) K27 (own_offS O44 own_off0))
              have O70 := (own_offN F69 le34)
              have F71 := (own_B (own_B F45 K37 (own_offS O70 (own_offS O70 own_off0))) K48 (own_offS O70 (own_offS O70 own_off0)))
              have F72 := (own_F (v := .null) (own_F (v := .null) (D34 (Or.inl (own_w hw 44 rfl)) (ty := (.object zs2)) (by decide)) K37 (own_nr (sl_6 hw) (own_nr (sl_7 hw) own_nin0))) K48 (own_nr (sl_12 hw) (own_nr (sl_13 hw) own_nin0)))
              have F73 := (own_F (v := .null) (own_F (v := .null) (D34 (Or.inl (own_w hw 46 rfl)) (ty := (.object zs2)) (by decide)) K37 (own_nr (sl_8 hw) (own_nr (sl_9 hw) own_nin0))) K48 (own_nr (sl_10 hw) (own_nr (sl_14 hw) own_nin0)))
              refine own_virtual Y48 hx (pc' := 245) (W := 0) (cl' := 9) (sl' := 25) (as' := [(.int (0 : Int32))]) (S' := []) (a := b34) hZ hown (own_w hw 38 rfl) (own_w hw 39 rfl) (notFace_of_selects (args := #[]) (mvT hZ (own_w hw 41 rfl))) (own_w hw 41 rfl) (own_w hw 40 rfl) (own_w hw 13 rfl) (own_w hw 42 rfl) (by decide) F61 (rm6_17 l Z a0 hw [] b34 w_NULL_KEY k1 k0 v1 v0 h48 n0 (own_sz Y48) F62 G48_0 F66 F63 F61 (Nat.le_trans Z0 sz_b34) F67 G48_1 F71 F68 F72 F73) (hb hby at_242) rfl (by rw [hml]; rfl) rfl (lenOf pd__I_V rfl) rfl (by decide) (by decide) rfl rfl (by decide) (by decide) P6_17_sz (own_fixR (S2 := []) rfl (fun T60 h60 Y60 R60 => ?_))
              obtain ⟨K60, G60_0, G60_1, G60_2, G60_3, G60_4, G60_5⟩ := R60
              refine own_iconst Y60 hx (pc' := 246) (x := (0 : Int32)) (hb hby at_245) rfl (by decide) ?_
              refine own_iload Y60 hx (pc' := 248) (hb hby at_246) rfl rfl ?_
              refine own_icmpYes Y60 hx (pc' := 255) (hb hby at_248) (by decide) (by decide) (by decide) ?_
              refine own_iconst Y60 hx (pc' := 256) (x := (1 : Int32)) (hb hby at_255) rfl (by decide) ?_
              refine own_istore Y60 hx (pc' := 258) (Ls' := #[.val (.int p0), .val (.int p1), .val (.int p2), .val (.int p3), .val (.int p4), .val (.int p5), .val (.int (2 : Int32)), .val (.int (0 : Int32)), .val k0, .val k1, .val k2, .val v0, .val v1, .val v2, .val (.ref b7), .val (.ref b9), .val (.ref b34), .val (.int (1 : Int32)), .unset, .unset, .unset]) (hb hby at_256) rfl rfl ?_
              refine own_iconst Y60 hx (pc' := 259) (x := (1 : Int32)) (hb hby at_258) rfl (by decide) ?_
              refine own_iload Y60 hx (pc' := 261) (hb hby at_259) rfl rfl ?_
              refine own_icmpYes Y60 hx (pc' := 268) (hb hby at_261) (by decide) (by decide) (by decide) ?_
              refine own_iconst Y60 hx (pc' := 269) (x := (2 : Int32)) (hb hby at_268) rfl (by decide) ?_
              refine own_istore Y60 hx (pc' := 271) (Ls' := #[.val (.int p0), .val (.int p1), .val (.int p2), .val (.int p3), .val (.int p4), .val (.int p5), .val (.int (2 : Int32)), .val (.int (0 : Int32)), .val k0, .val k1, .val k2, .val v0, .val v1, .val v2, .val (.ref b7), .val (.ref b9), .val (.ref b34), .val (.int (1 : Int32)), .val (.int (2 : Int32)), .unset, .unset]) (hb hby at_269) rfl rfl ?_
              refine own_iconst Y60 hx (pc' := 272) (x := (2 : Int32)) (hb hby at_271) rfl (by decide) ?_
              refine own_iload Y60 hx (pc' := 274) (hb hby at_272) rfl rfl ?_
              refine own_icmpYes Y60 hx (pc' := 281) (hb hby at_274) (by decide) (by decide) (by decide) ?_
              refine own_iconst Y60 hx (pc' := 282) (x := (3 : Int32)) (hb hby at_281) rfl (by decide) ?_
              refine own_istore Y60 hx (pc' := 284) (Ls' := #[.val (.int p0), .val (.int p1), .val (.int p2), .val (.int p3), .val (.int p4), .val (.int p5), .val (.int (2 : Int32)), .val (.int (0 : Int32)), .val k0, .val k1, .val k2, .val v0, .val v1, .val v2, .val (.ref b7), .val (.ref b9), .val (.ref b34), .val (.int (1 : Int32)), .val (.int (2 : Int32)), .val (.int (3 : Int32)), .unset]) (hb hby at_282) rfl rfl ?_
              refine own_aload Y60 hx (pc' := 286) (hb hby at_284) rfl rfl rfl ?_
              have F75 := (own_E F61 K60)
              have F76 := (own_B F62 K60 (own_offS O51 (own_offS O51 (own_offS O51 (own_offS O51 (own_offS O51 (own_offS O51 own_off0)))))))
              refine own_virtual Y60 hx (pc' := 289) (W := 0) (cl' := 9) (sl' := 25) (as' := []) (S' := []) (a := b34) hZ hown (own_w hw 47 rfl) (own_w hw 48 rfl) (notFace_of_selects (args := #[]) (mvT hZ (own_w hw 50 rfl))) (own_w hw 50 rfl) (own_w hw 49 rfl) (own_w hw 13 rfl) (own_w hw 51 rfl) (by decide) F75 (rm7_18 l Z a0 hw [] b34 w_NULL_KEY k1 h60 n0 (own_sz Y60) F76 G60_0 G60_2) (hb hby at_286) rfl (by rw [hml]; rfl) rfl (lenOf pd___I rfl) rfl (by decide) (by decide) rfl rfl (by decide) (by decide) own_Same.sz (own_fixS (S2 := [(.int (1 : Int32))]) rfl (fun T74 Y74 => ?_))
              refine own_iload Y74 hx (pc' := 291) (hb hby at_289) rfl rfl ?_
              refine own_iconst Y74 hx (pc' := 292) (x := (1 : Int32)) (hb hby at_291) rfl (by decide) ?_
              refine own_isub Y74 hx (pc' := 293) (hb hby at_292) rfl (z := (1 : Int32)) (by decide) ?_
              refine own_icmpNo Y74 hx (pc' := 296) (hb hby at_293) rfl (by decide) ?_
              refine own_iconst Y74 hx (pc' := 297) (x := (1 : Int32)) (hb hby at_296) rfl (by decide) ?_
              refine own_goto Y74 hx (pc' := 301) (hb hby at_297) (by decide) (by decide) ?_
              refine own_istore Y74 hx (pc' := 303) (Ls' := #[.val (.int p0), .val (.int p1), .val (.int p2), .val (.int p3), .val (.int p4), .val (.int p5), .val (.int (2 : Int32)), .val (.int (0 : Int32)), .val k0, .val k1, .val k2, .val v0, .val v1, .val v2, .val (.ref b7), .val (.ref b9), .val (.ref b34), .val (.int (1 : Int32)), .val (.int (2 : Int32)), .val (.int (3 : Int32)), .val (.int (1 : Int32))]) (hb hby at_301) rfl rfl ?_
              refine own_iload Y74 hx (pc' := 305) (hb hby at_303) rfl rfl ?_
              refine own_ifNo Y74 hx (pc' := 308) (hb hby at_305) rfl (by decide) ?_
              refine own_aload Y74 hx (pc' := 310) (hb hby at_308) rfl rfl rfl ?_
              refine own_iconst Y74 hx (pc' := 311) (x := (0 : Int32)) (hb hby at_310) rfl (by decide) ?_
              have F78 := (own_E (own_E F57 K48) K60)
              have F79 := (own_St (own_St F56 K48 (own_allS (own_plain F49) (own_allS (own_plain F49) own_all0))) K60 (own_allS (own_plain F61) (own_allS (own_plain F61) (own_allS (own_plain F61) (own_allS (own_plain F61) (own_allS (own_plain F61) (own_allS (own_plain F61) own_all0)))))))
              refine own_virtual Y74 hx (pc' := 314) (W := 0) (cl' := 9) (sl' := 25) (as' := [(.int (0 : Int32))]) (S' := []) (a := b34) hZ hown (own_w hw 52 rfl) (own_w hw 53 rfl) (notFace_of_selects (args := #[]) (mvT hZ (own_w hw 55 rfl))) (own_w hw 55 rfl) (own_w hw 54 rfl) (own_w hw 13 rfl) (own_w hw 56 rfl) (by decide) F75 (rm8_20 l Z a0 hw [] b34 w_NULL_KEY k1 h60 n0 (own_sz Y74) F76 G60_0 F78 F79) (hb hby at_311) rfl (by rw [hml]; rfl) rfl (lenOf pd__I_Ljava_lang_Object_ rfl) rfl (by decide) (by decide) rfl rfl (by decide) (by decide) own_Same.sz (own_fixS (S2 := [k1]) rfl (fun T77 Y77 => ?_))
              refine own_castB Y77 hx (pc' := 317) hZ hown (own_w hw 8 rfl) F76 (hb hby at_314) rfl (fun T80 Y80 => ?_)
              refine own_aload Y80 hx (pc' := 319) (hb hby at_317) rfl rfl rfl ?_
              refine own_iload Y80 hx (pc' := 321) (hb hby at_319) rfl rfl ?_
              have F82 := (own_A V20 K27 (own_out D15 own_out0))
              have D83 : b7 ≠ b34 := (Nat.ne_of_lt (Nat.lt_of_lt_of_le F82.lt le34))
              have F84 := (own_A (own_A (own_A (own_A (own_A V20 K27 (own_out D15 own_out0)) K34 own_out0) K37 (own_out D83 (own_out D83 own_out0))) K48 (own_out D83 (own_out D83 own_out0))) K60 (own_out D83 (own_out D83 (own_out D83 (own_out D83 (own_out D83 (own_out D83 own_out0)))))))
              refine own_aald Y80 hx (pc' := 322) (v := k1) hZ F84 (by decide) rfl rfl (hb hby at_321) rfl ?_
              refine own_static Y80 hx (pc' := 325) (W := 0) (cl' := 9) (sl' := 25) (as' := [k1, k1]) (S' := []) hZ hown (own_w hw 60 rfl) (own_w hw 61 rfl) (own_w hw 62 rfl) (own_w hw 63 rfl) (by decide) (rm10_22 l Z a0 hw [] k1 h60 n0 (own_sz Y80) F76) (hb hby at_322) rfl (by rw [hml]; rfl) rfl (lenOf pd__Ljava_lang_Integer_Ljava_lang_Integer__Z rfl) rfl (by decide) (by decide) rfl rfl (by decide) (by decide) own_Same.sz (own_fixS (S2 := [(.int (1 : Int32))]) rfl (fun T85 Y85 => ?_))
              refine own_ifNo Y85 hx (pc' := 328) (hb hby at_325) rfl (by decide) ?_
              refine own_iconst Y85 hx (pc' := 329) (x := (1 : Int32)) (hb hby at_328) rfl (by decide) ?_
              refine own_goto Y85 hx (pc' := 333) (hb hby at_329) (by decide) (by decide) ?_
              refine own_istore Y85 hx (pc' := 335) (Ls' := #[.val (.int p0), .val (.int p1), .val (.int p2), .val (.int p3), .val (.int p4), .val (.int p5), .val (.int (2 : Int32)), .val (.int (0 : Int32)), .val k0, .val k1, .val k2, .val v0, .val v1, .val v2, .val (.ref b7), .val (.ref b9), .val (.ref b34), .val (.int (1 : Int32)), .val (.int (2 : Int32)), .val (.int (3 : Int32)), .val (.int (1 : Int32))]) (hb hby at_333) rfl rfl ?_
              refine own_iload Y85 hx (pc' := 337) (hb hby at_335) rfl rfl ?_
              refine own_ifNo Y85 hx (pc' := 340) (hb hby at_337) rfl (by decide) ?_
              refine own_aload Y85 hx (pc' := 342) (hb hby at_340) rfl rfl rfl ?_
              refine own_iconst Y85 hx (pc' := 343) (x := (1 : Int32)) (hb hby at_342) rfl (by decide) ?_
              refine own_virtual Y85 hx (pc' := 346) (W := 0) (cl' := 9) (sl' := 25) (as' := [(.int (1 : Int32))]) (S' := []) (a := b34) hZ hown (own_w hw 52 rfl) (own_w hw 53 rfl) (notFace_of_selects (args := #[]) (mvT hZ (own_w hw 55 rfl))) (own_w hw 55 rfl) (own_w hw 54 rfl) (own_w hw 13 rfl) (own_w hw 56 rfl) (by decide) F75 (rm8_9 l Z a0 hw [] b34 w_NULL_KEY h60 n0 (own_sz Y85) G60_2 F79) (hb hby at_343) rfl (by rw [hml]; rfl) rfl (lenOf pd__I_Ljava_lang_Object_ rfl) rfl (by decide) (by decide) rfl rfl (by decide) (by decide) own_Same.sz (own_fixS (S2 := [.null]) rfl (fun T86 Y86 => ?_))
              refine own_castNull Y86 hx (pc' := 349) (hb hby at_346) rfl ?_
              refine own_aload Y86 hx (pc' := 351) (hb hby at_349) rfl rfl rfl ?_
              refine own_iload Y86 hx (pc' := 353) (hb hby at_351) rfl rfl ?_
              refine own_aald Y86 hx (pc' := 354) (v := .null) hZ F84 (by decide) rfl rfl (hb hby at_353) rfl ?_
              refine own_static Y86 hx (pc' := 357) (W := 0) (cl' := 9) (sl' := 25) (as' := [.null, .null]) (S' := []) hZ hown (own_w hw 60 rfl) (own_w hw 61 rfl) (own_w hw 62 rfl) (own_w hw 63 rfl) (by decide) (rm10_8 l Z a0 hw []  h60 n0 (own_sz Y86)) (hb hby at_354) rfl (by rw [hml]; rfl) rfl (lenOf pd__Ljava_lang_Integer_Ljava_lang_Integer__Z rfl) rfl (by decide) (by decide) rfl rfl (by decide) (by decide) own_Same.sz (own_fixS (S2 := [(.int (1 : Int32))]) rfl (fun T88 Y88 => ?_))
              refine own_ifNo Y88 hx (pc' := 360) (hb hby at_357) rfl (by decide) ?_
              refine own_iconst Y88 hx (pc' := 361) (x := (1 : Int32)) (hb hby at_360) rfl (by decide) ?_
              refine own_goto Y88 hx (pc' := 365) (hb hby at_361) (by decide) (by decide) ?_
              refine own_istore Y88 hx (pc' := 367) (Ls' := #[.val (.int p0), .val (.int p1), .val (.int p2), .val (.int p3), .val (.int p4), .val (.int p5), .val (.int (2 : Int32)), .val (.int (0 : Int32)), .val k0, .val k1, .val k2, .val v0, .val v1, .val v2, .val (.ref b7), .val (.ref b9), .val (.ref b34), .val (.int (1 : Int32)), .val (.int (2 : Int32)), .val (.int (3 : Int32)), .val (.int (1 : Int32))]) (hb hby at_365) rfl rfl ?_
              refine own_iload Y88 hx (pc' := 369) (hb hby at_367) rfl rfl ?_
              refine own_ifNo Y88 hx (pc' := 372) (hb hby at_369) rfl (by decide) ?_
              refine own_aload Y88 hx (pc' := 374) (hb hby at_372) rfl rfl rfl ?_
              refine own_iconst Y88 hx (pc' := 375) (x := (0 : Int32)) (hb hby at_374) rfl (by decide) ?_
              have F90 := (own_B F67 K60 (own_offS O54 (own_offS O54 (own_offS O54 (own_offS O54 (own_offS O54 (own_offS O54 own_off0)))))))
              refine own_virtual Y88 hx (pc' := 378) (W := 0) (cl' := 9) (sl' := 25) (as' := [(.int (0 : Int32))]) (S' := []) (a := b34) hZ hown (own_w hw 64 rfl) (own_w hw 65 rfl) (notFace_of_selects (args := #[]) (mvT hZ (own_w hw 67 rfl))) (own_w hw 67 rfl) (own_w hw 66 rfl) (own_w hw 13 rfl) (own_w hw 68 rfl) (by decide) F75 (rm11_23 l Z a0 hw [] b34 v1 h60 n0 (own_sz Y88) F90 G60_1) (hb hby at_375) rfl (by rw [hml]; rfl) rfl (lenOf pd__I_Ljava_lang_Object_ rfl) rfl (by decide) (by decide) rfl rfl (by decide) (by decide) own_Same.sz (own_fixS (S2 := [v1]) rfl (fun T89 Y89 => ?_))
              refine own_castB Y89 hx (pc' := 381) hZ hown (own_w hw 8 rfl) F90 (hb hby at_378) rfl (fun T91 Y91 => ?_)
              refine own_aload Y91 hx (pc' := 383) (hb hby at_381) rfl rfl rfl ?_
              refine own_iload Y91 hx (pc' := 385) (hb hby at_383) rfl rfl ?_
              have D93 : b9 ≠ b34 := (Nat.ne_of_lt (Nat.lt_of_lt_of_le V27.lt le34))
              have F94 := (own_A (own_A (own_A (own_A V27 K34 own_out0) K37 (own_out D93 (own_out D93 own_out0))) K48 (own_out D93 (own_out D93 own_out0))) K60 (own_out D93 (own_out D93 (own_out D93 (own_out D93 (own_out D93 (own_out D93 own_out0)))))))
              refine own_aald Y91 hx (pc' := 386) (v := v1) hZ F94 (by decide) rfl rfl (hb hby at_385) rfl ?_
              refine own_static Y91 hx (pc' := 389) (W := 0) (cl' := 9) (sl' := 25) (as' := [v1, v1]) (S' := []) hZ hown (own_w hw 60 rfl) (own_w hw 61 rfl) (own_w hw 62 rfl) (own_w hw 63 rfl) (by decide) (rm10_22 l Z a0 hw [] v1 h60 n0 (own_sz Y91) F90) (hb hby at_386) rfl (by rw [hml]; rfl) rfl (lenOf pd__Ljava_lang_Integer_Ljava_lang_Integer__Z rfl) rfl (by decide) (by decide) rfl rfl (by decide) (by decide) own_Same.sz (own_fixS (S2 := [(.int (1 : Int32))]) rfl (fun T95 Y95 => ?_))
              refine own_ifNo Y95 hx (pc' := 392) (hb hby at_389) rfl (by decide) ?_
              refine own_iconst Y95 hx (pc' := 393) (x := (1 : Int32)) (hb hby at_392) rfl (by decide) ?_
              refine own_goto Y95 hx (pc' := 397) (hb hby at_393) (by decide) (by decide) ?_
              refine own_istore Y95 hx (pc' := 399) (Ls' := #[.val (.int p0), .val (.int p1), .val (.int p2), .val (.int p3), .val (.int p4), .val (.int p5), .val (.int (2 : Int32)), .val (.int (0 : Int32)), .val k0, .val k1, .val k2, .val v0, .val v1, .val v2, .val (.ref b7), .val (.ref b9), .val (.ref b34), .val (.int (1 : Int32)), .val (.int (2 : Int32)), .val (.int (3 : Int32)), .val (.int (1 : Int32))]) (hb hby at_397) rfl rfl ?_
              refine own_iload Y95 hx (pc' := 401) (hb hby at_399) rfl rfl ?_
              refine own_ifNo Y95 hx (pc' := 404) (hb hby at_401) rfl (by decide) ?_
              refine own_aload Y95 hx (pc' := 406) (hb hby at_404) rfl rfl rfl ?_
              refine own_iconst Y95 hx (pc' := 407) (x := (1 : Int32)) (hb hby at_406) rfl (by decide) ?_
              refine own_virtual Y95 hx (pc' := 410) (W := 0) (cl' := 9) (sl' := 25) (as' := [(.int (1 : Int32))]) (S' := []) (a := b34) hZ hown (own_w hw 64 rfl) (own_w hw 65 rfl) (notFace_of_selects (args := #[]) (mvT hZ (own_w hw 67 rfl))) (own_w hw 67 rfl) (own_w hw 66 rfl) (own_w hw 13 rfl) (own_w hw 68 rfl) (by decide) F75 (rm11_11 l Z a0 hw [] b34 h60 n0 (own_sz Y95) G60_3) (hb hby at_407) rfl (by rw [hml]; rfl) rfl (lenOf pd__I_Ljava_lang_Object_ rfl) rfl (by decide) (by decide) rfl rfl (by decide) (by decide) own_Same.sz (own_fixS (S2 := [.null]) rfl (fun T96 Y96 => ?_))
              refine own_castNull Y96 hx (pc' := 413) (hb hby at_410) rfl ?_
              refine own_aload Y96 hx (pc' := 415) (hb hby at_413) rfl rfl rfl ?_
              refine own_iload Y96 hx (pc' := 417) (hb hby at_415) rfl rfl ?_
              refine own_aald Y96 hx (pc' := 418) (v := .null) hZ F94 (by decide) rfl rfl (hb hby at_417) rfl ?_
              refine own_static Y96 hx (pc' := 421) (W := 0) (cl' := 9) (sl' := 25) (as' := [.null, .null]) (S' := []) hZ hown (own_w hw 60 rfl) (own_w hw 61 rfl) (own_w hw 62 rfl) (own_w hw 63 rfl) (by decide) (rm10_8 l Z a0 hw []  h60 n0 (own_sz Y96)) (hb hby at_418) rfl (by rw [hml]; rfl) rfl (lenOf pd__Ljava_lang_Integer_Ljava_lang_Integer__Z rfl) rfl (by decide) (by decide) rfl rfl (by decide) (by decide) own_Same.sz (own_fixS (S2 := [(.int (1 : Int32))]) rfl (fun T98 Y98 => ?_))
              refine own_ifNo Y98 hx (pc' := 424) (hb hby at_421) rfl (by decide) ?_
              refine own_iconst Y98 hx (pc' := 425) (x := (1 : Int32)) (hb hby at_424) rfl (by decide) ?_
              refine own_goto Y98 hx (pc' := 429) (hb hby at_425) (by decide) (by decide) ?_
              refine own_istore Y98 hx (pc' := 431) (Ls' := #[.val (.int p0), .val (.int p1), .val (.int p2), .val (.int p3), .val (.int p4), .val (.int p5), .val (.int (2 : Int32)), .val (.int (0 : Int32)), .val k0, .val k1, .val k2, .val v0, .val v1, .val v2, .val (.ref b7), .val (.ref b9), .val (.ref b34), .val (.int (1 : Int32)), .val (.int (2 : Int32)), .val (.int (3 : Int32)), .val (.int (1 : Int32))]) (hb hby at_429) rfl rfl ?_
              refine own_iload Y98 hx (pc' := 433) (hb hby at_431) rfl rfl ?_
              refine own_ifNo Y98 hx (pc' := 436) (hb hby at_433) rfl (by decide) ?_
              refine own_aload Y98 hx (pc' := 438) (hb hby at_436) rfl rfl rfl ?_
              refine own_iconst Y98 hx (pc' := 439) (x := (2 : Int32)) (hb hby at_438) rfl (by decide) ?_
              refine own_virtual Y98 hx (pc' := 442) (W := 0) (cl' := 9) (sl' := 25) (as' := [(.int (2 : Int32))]) (S' := []) (a := b34) hZ hown (own_w hw 64 rfl) (own_w hw 65 rfl) (notFace_of_selects (args := #[]) (mvT hZ (own_w hw 67 rfl))) (own_w hw 67 rfl) (own_w hw 66 rfl) (own_w hw 13 rfl) (own_w hw 68 rfl) (by decide) F75 (rm11_12 l Z a0 hw [] b34 h60 n0 (own_sz Y98) G60_5) (hb hby at_439) rfl (by rw [hml]; rfl) rfl (lenOf pd__I_Ljava_lang_Object_ rfl) rfl (by decide) (by decide) rfl rfl (by decide) (by decide) own_Same.sz (own_fixS (S2 := [.null]) rfl (fun T99 Y99 => ?_))
              refine own_castNull Y99 hx (pc' := 445) (hb hby at_442) rfl ?_
              refine own_aload Y99 hx (pc' := 447) (hb hby at_445) rfl rfl rfl ?_
              refine own_iload Y99 hx (pc' := 449) (hb hby at_447) rfl rfl ?_
              refine own_aald Y99 hx (pc' := 450) (v := .null) hZ F94 (by decide) rfl rfl (hb hby at_449) rfl ?_
              refine own_static Y99 hx (pc' := 453) (W := 0) (cl' := 9) (sl' := 25) (as' := [.null, .null]) (S' := []) hZ hown (own_w hw 60 rfl) (own_w hw 61 rfl) (own_w hw 62 rfl) (own_w hw 63 rfl) (by decide) (rm10_8 l Z a0 hw []  h60 n0 (own_sz Y99)) (hb hby at_450) rfl (by rw [hml]; rfl) rfl (lenOf pd__Ljava_lang_Integer_Ljava_lang_Integer__Z rfl) rfl (by decide) (by decide) rfl rfl (by decide) (by decide) own_Same.sz (own_fixS (S2 := [(.int (1 : Int32))]) rfl (fun T101 Y101 => ?_))
              refine own_ifNo Y101 hx (pc' := 456) (hb hby at_453) rfl (by decide) ?_
              refine own_iconst Y101 hx (pc' := 457) (x := (1 : Int32)) (hb hby at_456) rfl (by decide) ?_
              refine own_goto Y101 hx (pc' := 461) (hb hby at_457) (by decide) (by decide) ?_
              refine own_istore Y101 hx (pc' := 463) (Ls' := #[.val (.int p0), .val (.int p1), .val (.int p2), .val (.int p3), .val (.int p4), .val (.int p5), .val (.int (2 : Int32)), .val (.int (0 : Int32)), .val k0, .val k1, .val k2, .val v0, .val v1, .val v2, .val (.ref b7), .val (.ref b9), .val (.ref b34), .val (.int (1 : Int32)), .val (.int (2 : Int32)), .val (.int (3 : Int32)), .val (.int (1 : Int32))]) (hb hby at_461) rfl rfl ?_
              refine own_iload Y101 hx (pc' := 465) (hb hby at_463) rfl rfl ?_
              exact own_retN Y101 hx hlk Bd.returns rfl (by simp) (hb hby at_465) ⟨rfl, trivial⟩ (by decide) (by decide)
            by_cases qF102 : (p5 &&& (32 : Int32)) = (0 : Int32)
            ·
              refine own_ifYes Y5 hx (pc' := 120) (hb hby at_113) ((if0 _ _).trans (teq qF102).1) (by decide) (by decide) ?_
              refine own_bipush Y5 hx (pc' := 122) (x := (-3 : Int32)) (hb hby at_120) rfl (by decide) ?_
              have F104 := (own_St (own_St (own_St (own_St (own_St S_high K1 own_all0) K2 own_all0) K3 own_all0) K4 own_all0) K5 own_all0)
              have F105 := (own_St (own_St (own_St (own_St (own_St S_cache K1 own_all0) K2 own_all0) K3 own_all0) K4 own_all0) K5 own_all0)
              have F106 := (own_CacheK (own_CacheK (own_CacheK (own_CacheK (own_CacheK H_cache K1) K2) K3) K4) K5)
              refine own_static Y5 hx (pc' := 125) (W := 0) (cl' := 6) (sl' := 6) (as' := [(.int (-3 : Int32))]) (S' := []) hZ hown (own_w hw 1 rfl) (own_w hw 2 rfl) (own_w hw 3 rfl) (own_w hw 4 rfl) (by decide) (rm1_15 l Z a0 hw [] (-3 : Int32) w_cache h5 n0 (own_sz Y5) F104 F105 F106) (hb hby at_122) rfl (by rw [hml]; rfl) rfl (lenOf pd__I_Ljava_lang_Integer_ rfl) rfl (by decide) (by decide) rfl rfl (by decide) (by decide) own_PV_sz (fun T103 h103 v103 Y103 R103 => ?_)
              obtain ⟨b103_0, rfl, K103, E103, F103⟩ := R103
              show own_Fin p e below _ (T103.setTop (mkF m 125 #[.val (.int p0), .val (.int p1), .val (.int p2), .val (.int p3), .val (.int p4), .val (.int p5), .val (.int (2 : Int32)), .val (.int (0 : Int32)), .val k0, .val k1, .val k2, .val v0, .val v1, .unset, .unset, .unset, .unset, .unset, .unset, .unset, .unset] [(.ref b103_0)]))
              exact J125 _ _ _ Y103 K103 (Or.inr ⟨b103_0, _, rfl, E103, F103⟩)
            ·
              refine own_ifNo Y5 hx (pc' := 116) (hb hby at_113) rfl ((if0 _ _).trans (feq qF102).1) ?_
              refine own_aconstNull Y5 hx (pc' := 117) (hb hby at_116) rfl ?_
              refine own_goto Y5 hx (pc' := 125) (hb hby at_117) (by decide) (by decide) ?_
              exact J125 _ _ .null (own_more Y5 (by decide) (by decide)) (own_Kp.refl _ _) (Or.inl rfl)
          by_cases qF107 : (p5 &&& (16 : Int32)) = (0 : Int32)
          ·
            refine own_ifYes Y4 hx (pc' := 101) (hb hby at_94) ((if0 _ _).trans (teq qF107).1) (by decide) (by decide) ?_
            refine own_bipush Y4 hx (pc' := 103) (x := (-2 : Int32)) (hb hby at_101) rfl (by decide) ?_
            have F109 := (own_St (own_St (own_St (own_St S_high K1 own_all0) K2 own_all0) K3 own_all0) K4 own_all0)
            have F110 := (own_St (own_St (own_St (own_St S_cache K1 own_all0) K2 own_all0) K3 own_all0) K4 own_all0)
            have F111 := (own_CacheK (own_CacheK (own_CacheK (own_CacheK H_cache K1) K2) K3) K4)
            refine own_static Y4 hx (pc' := 106) (W := 0) (cl' := 5) (sl' := 5) (as' := [(.int (-2 : Int32))]) (S' := []) hZ hown (own_w hw 1 rfl) (own_w hw 2 rfl) (own_w hw 3 rfl) (own_w hw 4 rfl) (by decide) (rm1_15 l Z a0 hw [] (-2 : Int32) w_cache h4 n0 (own_sz Y4) F109 F110 F111) (hb hby at_103) rfl (by rw [hml]; rfl) rfl (lenOf pd__I_Ljava_lang_Integer_ rfl) rfl (by decide) (by decide) rfl rfl (by decide) (by decide) own_PV_sz (fun T108 h108 v108 Y108 R108 => ?_)
            obtain ⟨b108_0, rfl, K108, E108, F108⟩ := R108
            show own_Fin p e below _ (T108.setTop (mkF m 106 #[.val (.int p0), .val (.int p1), .val (.int p2), .val (.int p3), .val (.int p4), .val (.int p5), .val (.int (2 : Int32)), .val (.int (0 : Int32)), .val k0, .val k1, .val k2, .val v0, .unset, .unset, .unset, .unset, .unset, .unset, .unset, .unset, .unset] [(.ref b108_0)]))
            exact J106 _ _ _ Y108 K108 (Or.inr ⟨b108_0, _, rfl, E108, F108⟩)
          ·
            refine own_ifNo Y4 hx (pc' := 97) (hb hby at_94) rfl ((if0 _ _).trans (feq qF107).1) ?_
            refine own_aconstNull Y4 hx (pc' := 98) (hb hby at_97) rfl ?_
            refine own_goto Y4 hx (pc' := 106) (hb hby at_98) (by decide) (by decide) ?_
            exact J106 _ _ .null (own_more Y4 (by decide) (by decide)) (own_Kp.refl _ _) (Or.inl rfl)
        by_cases qF112 : (p5 &&& (8 : Int32)) = (0 : Int32)
        ·
          refine own_ifYes Y3 hx (pc' := 83) (hb hby at_76) ((if0 _ _).trans (teq qF112).1) (by decide) (by decide) ?_
          refine own_iconst Y3 hx (pc' := 84) (x := (-1 : Int32)) (hb hby at_83) rfl (by decide) ?_
          have F114 := (own_St (own_St (own_St S_high K1 own_all0) K2 own_all0) K3 own_all0)
          have F115 := (own_St (own_St (own_St S_cache K1 own_all0) K2 own_all0) K3 own_all0)
          have F116 := (own_CacheK (own_CacheK (own_CacheK H_cache K1) K2) K3)
          refine own_static Y3 hx (pc' := 87) (W := 0) (cl' := 4) (sl' := 4) (as' := [(.int (-1 : Int32))]) (S' := []) hZ hown (own_w hw 1 rfl) (own_w hw 2 rfl) (own_w hw 3 rfl) (own_w hw 4 rfl) (by decide) (rm1_15 l Z a0 hw [] (-1 : Int32) w_cache h3 n0 (own_sz Y3) F114 F115 F116) (hb hby at_84) rfl (by rw [hml]; rfl) rfl (lenOf pd__I_Ljava_lang_Integer_ rfl) rfl (by decide) (by decide) rfl rfl (by decide) (by decide) own_PV_sz (fun T113 h113 v113 Y113 R113 => ?_)
          obtain ⟨b113_0, rfl, K113, E113, F113⟩ := R113
          show own_Fin p e below _ (T113.setTop (mkF m 87 #[.val (.int p0), .val (.int p1), .val (.int p2), .val (.int p3), .val (.int p4), .val (.int p5), .val (.int (2 : Int32)), .val (.int (0 : Int32)), .val k0, .val k1, .val k2, .unset, .unset, .unset, .unset, .unset, .unset, .unset, .unset, .unset, .unset] [(.ref b113_0)]))
          exact J87 _ _ _ Y113 K113 (Or.inr ⟨b113_0, _, rfl, E113, F113⟩)
        ·
          refine own_ifNo Y3 hx (pc' := 79) (hb hby at_76) rfl ((if0 _ _).trans (feq qF112).1) ?_
          refine own_aconstNull Y3 hx (pc' := 80) (hb hby at_79) rfl ?_
          refine own_goto Y3 hx (pc' := 87) (hb hby at_80) (by decide) (by decide) ?_
          exact J87 _ _ .null (own_more Y3 (by decide) (by decide)) (own_Kp.refl _ _) (Or.inl rfl)
      by_cases qF117 : (p5 &&& (4 : Int32)) = (0 : Int32)
      ·
        refine own_ifYes Y2 hx (pc' := 65) (hb hby at_58) ((if0 _ _).trans (teq qF117).1) (by decide) (by decide) ?_
        refine own_iloadN Y2 hx (pc' := 66) (hb hby at_65) rfl rfl ?_
        have F119 := (own_St (own_St S_high K1 own_all0) K2 own_all0)
        have F120 := (own_St (own_St S_cache K1 own_all0) K2 own_all0)
        have F121 := (own_CacheK (own_CacheK H_cache K1) K2)
        refine own_static Y2 hx (pc' := 69) (W := 0) (cl' := 3) (sl' := 3) (as' := [(.int p2)]) (S' := []) hZ hown (own_w hw 1 rfl) (own_w hw 2 rfl) (own_w hw 3 rfl) (own_w hw 4 rfl) (by decide) (rm1_15 l Z a0 hw [] p2 w_cache h2 n0 (own_sz Y2) F119 F120 F121) (hb hby at_66) rfl (by rw [hml]; rfl) rfl (lenOf pd__I_Ljava_lang_Integer_ rfl) rfl (by decide) (by decide) rfl rfl (by decide) (by decide) own_PV_sz (fun T118 h118 v118 Y118 R118 => ?_)
        obtain ⟨b118_0, rfl, K118, E118, F118⟩ := R118
        show own_Fin p e below _ (T118.setTop (mkF m 69 #[.val (.int p0), .val (.int p1), .val (.int p2), .val (.int p3), .val (.int p4), .val (.int p5), .val (.int (2 : Int32)), .val (.int (0 : Int32)), .val k0, .val k1, .unset, .unset, .unset, .unset, .unset, .unset, .unset, .unset, .unset, .unset, .unset] [(.ref b118_0)]))
        exact J69 _ _ _ Y118 K118 (Or.inr ⟨b118_0, _, rfl, E118, F118⟩)
      ·
        refine own_ifNo Y2 hx (pc' := 61) (hb hby at_58) rfl ((if0 _ _).trans (feq qF117).1) ?_
        refine own_aconstNull Y2 hx (pc' := 62) (hb hby at_61) rfl ?_
        refine own_goto Y2 hx (pc' := 69) (hb hby at_62) (by decide) (by decide) ?_
        exact J69 _ _ .null (own_more Y2 (by decide) (by decide)) (own_Kp.refl _ _) (Or.inl rfl)
    by_cases qF122 : (p5 &&& (2 : Int32)) = (0 : Int32)
    ·
      refine own_ifYes Y1 hx (pc' := 48) (hb hby at_41) ((if0 _ _).trans (teq qF122).1) (by decide) (by decide) ?_
      refine own_iloadN Y1 hx (pc' := 49) (hb hby at_48) rfl rfl ?_
      have F124 := (own_St S_high K1 own_all0)
      have F125 := (own_St S_cache K1 own_all0)
      have F126 := (own_CacheK H_cache K1)
      refine own_static Y1 hx (pc' := 52) (W := 0) (cl' := 2) (sl' := 2) (as' := [(.int p1)]) (S' := []) hZ hown (own_w hw 1 rfl) (own_w hw 2 rfl) (own_w hw 3 rfl) (own_w hw 4 rfl) (by decide) (rm1_15 l Z a0 hw [] p1 w_cache h1 n0 (own_sz Y1) F124 F125 F126) (hb hby at_49) rfl (by rw [hml]; rfl) rfl (lenOf pd__I_Ljava_lang_Integer_ rfl) rfl (by decide) (by decide) rfl rfl (by decide) (by decide) own_PV_sz (fun T123 h123 v123 Y123 R123 => ?_)
      obtain ⟨b123_0, rfl, K123, E123, F123⟩ := R123
      show own_Fin p e below _ (T123.setTop (mkF m 52 #[.val (.int p0), .val (.int p1), .val (.int p2), .val (.int p3), .val (.int p4), .val (.int p5), .val (.int (2 : Int32)), .val (.int (0 : Int32)), .val k0, .unset, .unset, .unset, .unset, .unset, .unset, .unset, .unset, .unset, .unset, .unset, .unset] [(.ref b123_0)]))
      exact J52 _ _ _ Y123 K123 (Or.inr ⟨b123_0, _, rfl, E123, F123⟩)
    ·
      refine own_ifNo Y1 hx (pc' := 44) (hb hby at_41) rfl ((if0 _ _).trans (feq qF122).1) ?_
      refine own_aconstNull Y1 hx (pc' := 45) (hb hby at_44) rfl ?_
      refine own_goto Y1 hx (pc' := 52) (hb hby at_45) (by decide) (by decide) ?_
      exact J52 _ _ .null (own_more Y1 (by decide) (by decide)) (own_Kp.refl _ _) (Or.inl rfl)
  by_cases qF127 : (p5 &&& (1 : Int32)) = (0 : Int32)
  ·
    refine own_ifYes Y0 hx (pc' := 31) (hb hby at_24) ((if0 _ _).trans (teq qF127).1) (by decide) (by decide) ?_
    refine own_iloadN Y0 hx (pc' := 32) (hb hby at_31) rfl rfl ?_
    refine own_static Y0 hx (pc' := 35) (W := 0) (cl' := 1) (sl' := 1) (as' := [(.int p0)]) (S' := []) hZ hown (own_w hw 1 rfl) (own_w hw 2 rfl) (own_w hw 3 rfl) (own_w hw 4 rfl) (by decide) (rm1_15 l Z a0 hw [] p0 w_cache h0 n0 (own_sz Y0) S_high S_cache H_cache) (hb hby at_32) rfl (by rw [hml]; rfl) rfl (lenOf pd__I_Ljava_lang_Integer_ rfl) rfl (by decide) (by decide) rfl rfl (by decide) (by decide) own_PV_sz (fun T128 h128 v128 Y128 R128 => ?_)
    obtain ⟨b128_0, rfl, K128, E128, F128⟩ := R128
    show own_Fin p e below _ (T128.setTop (mkF m 35 #[.val (.int p0), .val (.int p1), .val (.int p2), .val (.int p3), .val (.int p4), .val (.int p5), .val (.int (2 : Int32)), .val (.int (0 : Int32)), .unset, .unset, .unset, .unset, .unset, .unset, .unset, .unset, .unset, .unset, .unset, .unset, .unset] [(.ref b128_0)]))
    exact J35 _ _ _ Y128 K128 (Or.inr ⟨b128_0, _, rfl, E128, F128⟩)
  ·
    refine own_ifNo Y0 hx (pc' := 27) (hb hby at_24) rfl ((if0 _ _).trans (feq qF127).1) ?_
    refine own_aconstNull Y0 hx (pc' := 28) (hb hby at_27) rfl ?_
    refine own_goto Y0 hx (pc' := 35) (hb hby at_28) (by decide) (by decide) ?_
    exact J35 _ _ .null (own_more Y0 (by decide) (by decide)) (own_Kp.refl _ _) (Or.inl rfl)
def P6_24 (Z : State) (a1 : Addr) (a2 : Addr) (v3 : Value) (v4 : Value) (h0 : Heap) (h : Heap) : Prop := own_Kp h0 h [(a1, Jvm.RoadKit.slotOf Z zs0 "key1" zs1), (a1, Jvm.RoadKit.slotOf Z zs0 "value1" zs1), (a1, Jvm.RoadKit.slotOf Z zs0 "key2" zs1), (a1, Jvm.RoadKit.slotOf Z zs0 "value2" zs1)] ∧ Fld Z h a1 zs0 "key1" zs1 .null ∧ Fld Z h a1 zs0 "value1" zs1 .null ∧ Fld Z h a1 zs0 "key2" zs1 .null ∧ Fld Z h a1 zs0 "value2" zs1 .null
theorem P6_24_sz {Z : State} {a1 : Addr} {a2 : Addr} {v3 : Value} {v4 : Value} {h0 : Heap} : ∀ v h', (own_R none (P6_24 Z a1 a2 v3 v4 h0)) v h' → Array.size h0 ≤ Array.size h' := by
  intro v h' q
  obtain ⟨-, K, -⟩ := q
  exact K.1
set_option maxRecDepth 65536 in
set_option maxHeartbeats 40000000 in
theorem rm6_24 (l : Launch) (Z : State) (a0 : Array Value) (hw : ∀ d ∈ tables_1, d.before a0 Z = true) (ws : List Jvm.Cond) (a1 : Addr) (a2 : Addr) (v3 : Value) (v4 : Value) (h0 : Heap) (n0 : Nat) (Z0 : n0 ≤ Array.size h0) (P0 : Fld Z h0 a1 zs0 "key2" zs1 .null) (P1 : own_Box Z h0 v3) (P2 : Fld Z h0 a1 zs0 "key1" zs1 (.ref (own_sa a2 v3))) (P3 : Exa Z h0 a1 zs0) (P4 : n0 ≤ a1) (P5 : Fld Z h0 a1 zs0 "value2" zs1 .null) (P6 : own_Box Z h0 v4) (P7 : Fld Z h0 a1 zs0 "value1" zs1 v4) :
    MetFree l (⟨zs0, "removeEntry", "(I)V"⟩ : MethodName) (head1 (Jvm.Cond.code (⟨zs0, "removeEntry", "(I)V"⟩ : MethodName) prog_25_method_5_code 2 none :: ws) ({ frames := 0, cells := 0, slots := 0, locals := 0 } : Room)) (fun a U => a = #[(.ref a1), (.int (1 : Int32))] ∧ Z.Warmed39 U.vm ∧ U.heap = h0) (fun _ _ _ _ _ => True) (fun _ U o U' => ∃ v L, o = .returned v ∧ own_QQ n0 (own_R none (P6_24 Z a1 a2 v3 v4 h0)) v U'.heap L ∧ FrameEnd U o U' L ({ frames := 0, cells := 0, slots := 0, locals := 0 } : Room).cells ({ frames := 0, cells := 0, slots := 0, locals := 0 } : Room).slots) := by
  refine MetFree.of_bodySF (plainFor_of_name pn_com_example_napkintree_napkintree_balancing_MultiwayTree_Node) hisR ?_
  intro p e s m args below meth c s₁ Bd hml0 hP hK
  obtain ⟨rfl, hZ, hh⟩ := hP
  have hx := Bd.exec
  have hby := Bd.bytes
  have hml : c.maxLocals = 2 := hml0
  have hown : s.vm.findClass zs0 = some m.cls := findClass_of_methodNamed Bd.named
  have hnm := (name_of_methodNamed Bd.named Bd.method).1
  have hlk : meth.locks = false := BodyLoose.notSynchronized Bd
  have Y0 : own_S p l e ({ frames := 0, cells := 0, slots := 0, locals := 0 } : Room) s m #[(.ref a1), (.int (1 : Int32))] below meth c n0 s₁ h0 0 0 := ⟨[], Stand.of_body Bd, Fr.nil n0, by rw [← hh, Bd.state]; rfl, Z0⟩
  refine (?_ : own_Fin p e below _ _)
  refine own_st (fun t k => castTop (ef_6_RI m a1 (1 : Int32)) k) ?_
  refine own_iloadN Y0 hx (pc' := 1) (hb hby d6_0) rfl rfl ?_
  refine own_ifYes Y0 hx (pc' := 20) (hb hby d6_1) (by decide) (by decide) (by decide) ?_
  refine own_iloadN Y0 hx (pc' := 21) (hb hby d6_20) rfl rfl ?_
  refine own_iconst Y0 hx (pc' := 22) (x := (1 : Int32)) (hb hby d6_21) rfl (by decide) ?_
  refine own_icmpNo Y0 hx (pc' := 25) (hb hby d6_22) rfl (by decide) ?_
  refine own_aloadN Y0 hx (pc' := 26) (hb hby d6_25) rfl rfl rfl ?_
  refine own_aloadN Y0 hx (pc' := 27) (hb hby d6_26) rfl rfl rfl ?_
  refine own_getF Y0 hx (pc' := 30) (v := .null) hZ hown (host := "") (Or.inl (own_w hw 43 rfl)) Via.refl P0 (hb hby d6_27) rfl (fun T1 Y1 => ?_)
  refine own_putF Y1 hx (pc' := 33) hZ hown (host := "") (Or.inl (own_w hw 34 rfl)) Via.refl P2 P3 (Or.inl (own_w hw 35 rfl)) (own_w hw 12 rfl) (ty := (.object zs2)) (by decide) rfl rfl P4 (hb hby d6_30) rfl (fun T2 h2 Y2 K2 F2 => ?_)
  refine own_aloadN Y2 hx (pc' := 34) (hb hby d6_33) rfl rfl rfl ?_
  refine own_aloadN Y2 hx (pc' := 35) (hb hby d6_34) rfl rfl rfl ?_
  have F3 := (own_F (v := .null) P5 K2 (own_nr (sl_10 hw) own_nin0))
  refine own_getF Y2 hx (pc' := 38) (v := .null) hZ hown (host := "") (Or.inl (own_w hw 45 rfl)) Via.refl F3 (hb hby d6_35) rfl (fun T4 Y4 => ?_)
  have F5 := (own_F (v := v4) P7 K2 (own_nr (sl_11 hw) own_nin0))
  have F6 := (own_E P3 K2)
  refine own_putF Y4 hx (pc' := 41) hZ hown (host := "") (Or.inl (own_w hw 36 rfl)) Via.refl F5 F6 (Or.inl (own_w hw 37 rfl)) (own_w hw 12 rfl) (ty := (.object zs2)) (by decide) rfl rfl P4 (hb hby d6_38) rfl (fun T7 h7 Y7 K7 F7 => ?_)
  refine own_aloadN Y7 hx (pc' := 42) (hb hby d6_41) rfl rfl rfl ?_
  refine own_aconstNull Y7 hx (pc' := 43) (hb hby d6_42) rfl ?_
  have F8 := (own_F (v := .null) (own_F (v := .null) P0 K2 (own_nr (sl_12 hw) own_nin0)) K7 (own_nr (sl_13 hw) own_nin0))
  have F9 := (own_E F6 K7)
  refine own_putF Y7 hx (pc' := 46) hZ hown (host := "") (Or.inl (own_w hw 43 rfl)) Via.refl F8 F9 (Or.inl (own_w hw 44 rfl)) (own_w hw 12 rfl) (ty := (.object zs2)) (by decide) rfl rfl P4 (hb hby d6_43) rfl (fun T10 h10 Y10 K10 F10 => ?_)
  refine own_aloadN Y10 hx (pc' := 47) (hb hby d6_46) rfl rfl rfl ?_
  refine own_aconstNull Y10 hx (pc' := 48) (hb hby d6_47) rfl ?_
  have F11 := (own_F (v := .null) (own_F (v := .null) F3 K7 (own_nr (sl_14 hw) own_nin0)) K10 (own_nr (sl_15 hw) own_nin0))
  have F12 := (own_E F9 K10)
  refine own_putF Y10 hx (pc' := 51) hZ hown (host := "") (Or.inl (own_w hw 45 rfl)) Via.refl F11 F12 (Or.inl (own_w hw 46 rfl)) (own_w hw 12 rfl) (ty := (.object zs2)) (by decide) rfl rfl P4 (hb hby d6_48) rfl (fun T13 h13 Y13 K13 F13 => ?_)
  have KC14 : own_Kp h0 h13 [(a1, Jvm.RoadKit.slotOf Z zs0 "key1" zs1), (a1, Jvm.RoadKit.slotOf Z zs0 "value1" zs1), (a1, Jvm.RoadKit.slotOf Z zs0 "key2" zs1), (a1, Jvm.RoadKit.slotOf Z zs0 "value2" zs1)] := (((((own_Kp.refl h0 [(a1, Jvm.RoadKit.slotOf Z zs0 "key1" zs1), (a1, Jvm.RoadKit.slotOf Z zs0 "value1" zs1), (a1, Jvm.RoadKit.slotOf Z zs0 "key2" zs1), (a1, Jvm.RoadKit.slotOf Z zs0 "value2" zs1)]).trans K2 (own_allS (Or.inl (List.mem_of_getElem? (i := 0) rfl)) own_all0)).trans K7 (own_allS (Or.inl (List.mem_of_getElem? (i := 1) rfl)) own_all0)).trans K10 (own_allS (Or.inl (List.mem_of_getElem? (i := 2) rfl)) own_all0)).trans K13 (own_allS (Or.inl (List.mem_of_getElem? (i := 3) rfl)) own_all0))
  have F15 := (own_F (v := .null) (own_F (v := .null) (own_F (v := .null) F2 K7 (own_nr (sl_24 hw) own_nin0)) K10 (own_nr (sl_25 hw) own_nin0)) K13 (own_nr (sl_26 hw) own_nin0))
  have F16 := (own_F (v := .null) (own_F (v := .null) F7 K10 (own_nr (sl_27 hw) own_nin0)) K13 (own_nr (sl_28 hw) own_nin0))
  have F17 := (own_F (v := .null) F10 K13 (own_nr (sl_29 hw) own_nin0))
  exact own_ret0 Y13 hx hlk Bd.returns (hb hby d6_51) ⟨rfl, KC14, F15, F16, F17, F13⟩ (by decide) (by decide)
set_option maxRecDepth 65536 in
set_option maxHeartbeats 40000000 in
theorem rm7_25 (l : Launch) (Z : State) (a0 : Array Value) (hw : ∀ d ∈ tables_1, d.before a0 Z = true) (ws : List Jvm.Cond) (a1 : Addr) (a2 : Addr) (v3 : Value) (h0 : Heap) (n0 : Nat) (Z0 : n0 ≤ Array.size h0) (P0 : own_Box Z h0 v3) (P1 : Fld Z h0 a1 zs0 "key0" zs1 (.ref (own_sa a2 v3))) (P2 : Fld Z h0 a1 zs0 "key1" zs1 .null) :
    MetFree l (⟨zs0, "keyCount", "()I"⟩ : MethodName) (head1 (Jvm.Cond.code (⟨zs0, "keyCount", "()I"⟩ : MethodName) prog_25_method_16_code 1 (some .int) :: ws) ({ frames := 0, cells := 0, slots := 0, locals := 0 } : Room)) (fun a U => a = #[(.ref a1)] ∧ Z.Warmed39 U.vm ∧ U.heap = h0) (fun _ _ _ _ _ => True) (fun _ U o U' => ∃ v L, o = .returned v ∧ own_QQ n0 (own_Same (some (.int (1 : Int32))) h0) v U'.heap L ∧ FrameEnd U o U' L ({ frames := 0, cells := 0, slots := 0, locals := 0 } : Room).cells ({ frames := 0, cells := 0, slots := 0, locals := 0 } : Room).slots) := by
  refine MetFree.of_bodySF (plainFor_of_name pn_com_example_napkintree_napkintree_balancing_MultiwayTree_Node) hisR ?_
  intro p e s m args below meth c s₁ Bd hml0 hP hK
  obtain ⟨rfl, hZ, hh⟩ := hP
  have hx := Bd.exec
  have hby := Bd.bytes
  have hml : c.maxLocals = 1 := hml0
  have hown : s.vm.findClass zs0 = some m.cls := findClass_of_methodNamed Bd.named
  have hnm := (name_of_methodNamed Bd.named Bd.method).1
  have hlk : meth.locks = false := BodyLoose.notSynchronized Bd
  have Y0 : own_S p l e ({ frames := 0, cells := 0, slots := 0, locals := 0 } : Room) s m #[(.ref a1)] below meth c n0 s₁ h0 0 0 := ⟨[], Stand.of_body Bd, Fr.nil n0, by rw [← hh, Bd.state]; rfl, Z0⟩
  refine (?_ : own_Fin p e below _ _)
  refine own_st (fun t k => castTop (ef_7_R m a1) k) ?_
  refine own_aloadN Y0 hx (pc' := 1) (hb hby d7_0) rfl rfl rfl ?_
  refine own_getF Y0 hx (pc' := 4) (v := (.ref (own_sa a2 v3))) hZ hown (host := "") (Or.inl (own_w hw 30 rfl)) Via.refl P1 (hb hby d7_1) rfl (fun T1 Y1 => ?_)
  refine own_ifnonnullYes Y1 hx (pc' := 11) (hb hby d7_4) (by decide) (by decide) ?_
  refine own_aloadN Y1 hx (pc' := 12) (hb hby d7_11) rfl rfl rfl ?_
  refine own_getF Y1 hx (pc' := 15) (v := .null) hZ hown (host := "") (Or.inl (own_w hw 34 rfl)) Via.refl P2 (hb hby d7_12) rfl (fun T2 Y2 => ?_)
  refine own_ifnonnullNo Y2 hx (pc' := 18) (hb hby d7_15) rfl ?_
  refine own_iconst Y2 hx (pc' := 19) (x := (1 : Int32)) (hb hby d7_18) rfl (by decide) ?_
  refine own_goto Y2 hx (pc' := 34) (hb hby d7_19) (by decide) (by decide) ?_
  exact own_retN Y2 hx hlk Bd.returns rfl (by simp) (hb hby d7_34) ⟨rfl, rfl⟩ (by decide) (by decide)
set_option maxRecDepth 65536 in
set_option maxHeartbeats 40000000 in
theorem rm8_26 (l : Launch) (Z : State) (a0 : Array Value) (hw : ∀ d ∈ tables_1, d.before a0 Z = true) (ws : List Jvm.Cond) (a1 : Addr) (a2 : Addr) (v3 : Value) (h0 : Heap) (n0 : Nat) (Z0 : n0 ≤ Array.size h0) (P0 : own_Box Z h0 v3) (P1 : Fld Z h0 a1 zs0 "key0" zs1 (.ref (own_sa a2 v3))) (P2 : Exa Z h0 a2 zs2) (P3 : Sta Z h0 zs0 "NULL_KEY" zs1 (.ref a2)) :
    MetFree l (⟨zs0, "key", zs6⟩ : MethodName) (head1 (Jvm.Cond.code (⟨zs0, "key", zs6⟩ : MethodName) prog_25_method_17_code 3 (some (.object zs2)) :: ws) ({ frames := 1, cells := 0, slots := 0, locals := 12 } : Room)) (fun a U => a = #[(.ref a1), (.int (0 : Int32))] ∧ Z.Warmed39 U.vm ∧ U.heap = h0) (fun _ _ _ _ _ => True) (fun _ U o U' => ∃ v L, o = .returned v ∧ own_QQ n0 (own_Same (some v3) h0) v U'.heap L ∧ FrameEnd U o U' L ({ frames := 1, cells := 0, slots := 0, locals := 12 } : Room).cells ({ frames := 1, cells := 0, slots := 0, locals := 12 } : Room).slots) := by
  refine MetFree.of_bodySF (plainFor_of_name pn_com_example_napkintree_napkintree_balancing_MultiwayTree_Node) hisR ?_
  intro p e s m args below meth c s₁ Bd hml0 hP hK
  obtain ⟨rfl, hZ, hh⟩ := hP
  have hx := Bd.exec
  have hby := Bd.bytes
  have hml : c.maxLocals = 3 := hml0
  have hown : s.vm.findClass zs0 = some m.cls := findClass_of_methodNamed Bd.named
  have hnm := (name_of_methodNamed Bd.named Bd.method).1
  have hlk : meth.locks = false := BodyLoose.notSynchronized Bd
  have Y0 : own_S p l e ({ frames := 1, cells := 0, slots := 0, locals := 12 } : Room) s m #[(.ref a1), (.int (0 : Int32))] below meth c n0 s₁ h0 0 0 := ⟨[], Stand.of_body Bd, Fr.nil n0, by rw [← hh, Bd.state]; rfl, Z0⟩
  refine (?_ : own_Fin p e below _ _)
  refine own_st (fun t k => castTop (ef_8_RI m a1 (0 : Int32)) k) ?_
  refine own_iloadN Y0 hx (pc' := 1) (hb hby d8_0) rfl rfl ?_
  refine own_tswIn Y0 hx (pc' := 28) (o := 27) (hb hby d8_1) (by decide) (by decide) (by decide) (by decide) ?_
  refine own_aloadN Y0 hx (pc' := 29) (hb hby d8_28) rfl rfl rfl ?_
  refine own_getF Y0 hx (pc' := 32) (v := (.ref (own_sa a2 v3))) hZ hown (host := "") (Or.inl (own_w hw 30 rfl)) Via.refl P1 (hb hby d8_29) rfl (fun T1 Y1 => ?_)
  refine own_goto Y1 hx (pc' := 58) (hb hby d8_32) (by decide) (by decide) ?_
  refine own_astoreN Y1 hx (pc' := 59) (Ls' := #[.val (.ref a1), .val (.int (0 : Int32)), .val (.ref (own_sa a2 v3))]) (hb hby d8_58) rfl rfl rfl ?_
  refine own_aloadN Y1 hx (pc' := 60) (hb hby d8_59) rfl rfl rfl ?_
  refine own_static Y1 hx (pc' := 63) (W := 0) (cl' := 0) (sl' := 0) (as' := [(.ref (own_sa a2 v3))]) (S' := []) hZ hown (own_w hw 57 rfl) (own_w hw 58 rfl) (own_w hw 13 rfl) (own_w hw 59 rfl) (by decide) (rm9_19 l Z a0 hw [] a2 v3 h0 n0 (own_sz Y1) P0 P2 P3) (hb hby d8_60) rfl (by rw [hml]; rfl) rfl (lenOf pd__Ljava_lang_Object__Ljava_lang_Object_ rfl) rfl (by decide) (by decide) rfl rfl (by decide) (by decide) own_Same.sz (own_fixS (S2 := [v3]) rfl (fun T2 Y2 => ?_))
  exact own_retA Y2 hx hlk Bd.returns (own_narR rfl (own_BoxRef P0)) rfl (own_BoxRef P0) (hb hby d8_63) ⟨rfl, rfl⟩ (by decide) (by decide)
set_option maxRecDepth 65536 in
set_option maxHeartbeats 40000000 in
theorem rm11_27 (l : Launch) (Z : State) (a0 : Array Value) (hw : ∀ d ∈ tables_1, d.before a0 Z = true) (ws : List Jvm.Cond) (a1 : Addr) (v2 : Value) (h0 : Heap) (n0 : Nat) (Z0 : n0 ≤ Array.size h0) (P0 : own_Box Z h0 v2) (P1 : Fld Z h0 a1 zs0 "value0" zs1 v2) :
    MetFree l (⟨zs0, "value", zs6⟩ : MethodName) (head1 (Jvm.Cond.code (⟨zs0, "value", zs6⟩ : MethodName) prog_25_method_20_code 3 (some (.object zs2)) :: ws) ({ frames := 0, cells := 0, slots := 0, locals := 0 } : Room)) (fun a U => a = #[(.ref a1), (.int (0 : Int32))] ∧ Z.Warmed39 U.vm ∧ U.heap = h0) (fun _ _ _ _ _ => True) (fun _ U o U' => ∃ v L, o = .returned v ∧ own_QQ n0 (own_Same (some v2) h0) v U'.heap L ∧ FrameEnd U o U' L ({ frames := 0, cells := 0, slots := 0, locals := 0 } : Room).cells ({ frames := 0, cells := 0, slots := 0, locals := 0 } : Room).slots) := by
  refine MetFree.of_bodySF (plainFor_of_name pn_com_example_napkintree_napkintree_balancing_MultiwayTree_Node) hisR ?_
  intro p e s m args below meth c s₁ Bd hml0 hP hK
  obtain ⟨rfl, hZ, hh⟩ := hP
  have hx := Bd.exec
  have hby := Bd.bytes
  have hml : c.maxLocals = 3 := hml0
  have hown : s.vm.findClass zs0 = some m.cls := findClass_of_methodNamed Bd.named
  have hnm := (name_of_methodNamed Bd.named Bd.method).1
  have hlk : meth.locks = false := BodyLoose.notSynchronized Bd
  have Y0 : own_S p l e ({ frames := 0, cells := 0, slots := 0, locals := 0 } : Room) s m #[(.ref a1), (.int (0 : Int32))] below meth c n0 s₁ h0 0 0 := ⟨[], Stand.of_body Bd, Fr.nil n0, by rw [← hh, Bd.state]; rfl, Z0⟩
  refine (?_ : own_Fin p e below _ _)
  refine own_st (fun t k => castTop (ef_11_RI m a1 (0 : Int32)) k) ?_
  refine own_iloadN Y0 hx (pc' := 1) (hb hby d11_0) rfl rfl ?_
  refine own_tswIn Y0 hx (pc' := 28) (o := 27) (hb hby d11_1) (by decide) (by decide) (by decide) (by decide) ?_
  refine own_aloadN Y0 hx (pc' := 29) (hb hby d11_28) rfl rfl rfl ?_
  refine own_getF Y0 hx (pc' := 32) (v := v2) hZ hown (host := "") (Or.inl (own_w hw 32 rfl)) Via.refl P1 (hb hby d11_29) rfl (fun T1 Y1 => ?_)
  refine own_goto Y1 hx (pc' := 58) (hb hby d11_32) (by decide) (by decide) ?_
  refine own_astoreN Y1 hx (pc' := 59) (Ls' := #[.val (.ref a1), .val (.int (0 : Int32)), .val v2]) (hb hby d11_58) rfl (own_BoxRef P0) (own_stV (own_BoxRef P0) rfl (Or.inl rfl) rfl) ?_
  refine own_aloadN Y1 hx (pc' := 60) (hb hby d11_59) rfl rfl (own_BoxRef P0) ?_
  exact own_retA Y1 hx hlk Bd.returns (own_narR rfl (own_BoxRef P0)) rfl (own_BoxRef P0) (hb hby d11_60) ⟨rfl, rfl⟩ (by decide) (by decide)
set_option maxRecDepth 65536 in
set_option maxHeartbeats 40000000 in
theorem rm0_c21 (l : Launch) (Z : State) (a0 : Array Value) (hw : ∀ d ∈ tables_1, d.before a0 Z = true) (ws : List Jvm.Cond) (w_NULL_KEY : Addr) (w_cache : Addr) (p0 : Int32) (p1 : Int32) (p2 : Int32) (p3 : Int32) (p4 : Int32) (p5 : Int32) (h0 : Heap) (n0 : Nat) (Z0 : n0 ≤ Array.size h0) (PN : own_Pins Z h0 w_NULL_KEY w_cache) (q0 : ((p3 &&& (2147483647 : Int32)) % (3 : Int32)) = (1 : Int32)) (q1 : ((p4 &&& (2147483647 : Int32)) % (2 : Int32)) = (1 : Int32)) :
    MetFree l x (head1 (Jvm.Cond.code x code maxLocals ret :: ws) room_1) (fun a U => a = #[(.int p0), (.int p1), (.int p2), (.int p3), (.int p4), (.int p5)] ∧ Z.Warmed39 U.vm ∧ U.heap = h0) (fun _ _ _ _ _ => True) (fun _ U o U' => ∃ v L, o = .returned v ∧ own_QQ n0 (own_R (some (.int (1 : Int32))) (fun _ => True)) v U'.heap L ∧ FrameEnd U o U' L room_1.cells room_1.slots) := by
  refine MetFree.of_bodySF (plainFor_of_name pn_com_example_napkintree_napkintree_balancing_NodeRemoveEntryPinLaw) hisR ?_
  intro p e s m args below meth c s₁ Bd hml0 hP hK
  obtain ⟨rfl, hZ, hh⟩ := hP
  have hx := Bd.exec
  have hby := Bd.bytes
  have hml : c.maxLocals = 21 := hml0
  have hown : s.vm.findClass zs7 = some m.cls := findClass_of_methodNamed Bd.named
  have hnm := (name_of_methodNamed Bd.named Bd.method).1
  have hlk : meth.locks = false := BodyLoose.notSynchronized Bd
  have Y0 : own_S p l e room_1 s m #[(.int p0), (.int p1), (.int p2), (.int p3), (.int p4), (.int p5)] below meth c n0 s₁ h0 0 0 := ⟨[], Stand.of_body Bd, Fr.nil n0, by rw [← hh, Bd.state]; rfl, Z0⟩
  obtain ⟨S_NULL_KEY, E_NULL_KEY, S_high, S_cache, H_cache⟩ := PN
  refine (?_ : own_Fin p e below _ _)
  refine own_st (fun t k => castTop (ef_0_IIIIII m p0 p1 p2 p3 p4 p5) k) ?_
  show own_Fin p e below (own_KL s n0) _
  refine own_iloadN Y0 hx (pc' := 1) (hb hby at_0) rfl rfl ?_
  refine own_ldcI Y0 hx (pc' := 3) hZ hown (own_w hw 0 rfl) (hb hby at_1) rfl ?_
  refine own_iand Y0 hx (pc' := 4) (hb hby at_3) rfl (z := (p3 &&& (2147483647 : Int32))) rfl ?_
  refine own_iconst Y0 hx (pc' := 5) (x := (3 : Int32)) (hb hby at_4) rfl (by decide) ?_
  refine own_irem Y0 hx (pc' := 6) (hb hby at_5) rfl (by decide) (z := (1 : Int32)) q0 ?_
  refine own_iconst Y0 hx (pc' := 7) (x := (1 : Int32)) (hb hby at_6) rfl (by decide) ?_
  refine own_iadd Y0 hx (pc' := 8) (hb hby at_7) rfl (z := (2 : Int32)) (by decide) ?_
  refine own_istore Y0 hx (pc' := 10) (Ls' := #[.val (.int p0), .val (.int p1), .val (.int p2), .val (.int p3), .val (.int p4), .val (.int p5), .val (.int (2 : Int32)), .unset, .unset, .unset, .unset, .unset, .unset, .unset, .unset, .unset, .unset, .unset, .unset, .unset, .unset]) (hb hby at_8) rfl rfl ?_
  refine own_iload Y0 hx (pc' := 12) (hb hby at_10) rfl rfl ?_
  refine own_ldcI Y0 hx (pc' := 14) hZ hown (own_w hw 0 rfl) (hb hby at_12) rfl ?_
  refine own_iand Y0 hx (pc' := 15) (hb hby at_14) rfl (z := (p4 &&& (2147483647 : Int32))) rfl ?_
  refine own_iload Y0 hx (pc' := 17) (hb hby at_15) rfl rfl ?_
  refine own_irem Y0 hx (pc' := 18) (hb hby at_17) rfl (by decide) (z := (1 : Int32)) q1 ?_
  refine own_istore Y0 hx (pc' := 20) (Ls' := #[.val (.int p0), .val (.int p1), .val (.int p2), .val (.int p3), .val (.int p4), .val (.int p5), .val (.int (2 : Int32)), .val (.int (1 : Int32)), .unset, .unset, .unset, .unset, .unset, .unset, .unset, .unset, .unset, .unset, .unset, .unset, .unset]) (hb hby at_18) rfl rfl ?_
  refine own_iload Y0 hx (pc' := 22) (hb hby at_20) rfl rfl ?_
  refine own_iconst Y0 hx (pc' := 23) (x := (1 : Int32)) (hb hby at_22) rfl (by decide) ?_
  refine own_iand Y0 hx (pc' := 24) (hb hby at_23) rfl (z := (p5 &&& (1 : Int32))) rfl ?_
  have J35 : ∀ (T' : State) (h' : Heap) (k0 : Value), own_S p l e room_1 s m #[(.int p0), (.int p1), (.int p2), (.int p3), (.int p4), (.int p5)] below meth c n0 T' h' 1 1 → own_Kp h0 h' [] → own_Box Z h' k0 → own_Fin p e below (own_KL s n0) (T'.setTop (mkF m 35 #[.val (.int p0), .val (.int p1), .val (.int p2), .val (.int p3), .val (.int p4), .val (.int p5), .val (.int (2 : Int32)), .val (.int (1 : Int32)), .unset, .unset, .unset, .unset, .unset, .unset, .unset, .unset, .unset, .unset, .unset, .unset, .unset] [k0])) := by
    intro T1 h1 k0 Y1 K1 B1
    have hr_k0 : k0.isRef = true := own_BoxRef B1
    refine own_astore Y1 hx (pc' := 37) (Ls' := #[.val (.int p0), .val (.int p1), .val (.int p2), .val (.int p3), .val (.int p4), .val (.int p5), .val (.int (2 : Int32)), .val (.int (1 : Int32)), .val k0, .unset, .unset, .unset, .unset, .unset, .unset, .unset, .unset, .unset, .unset, .unset, .unset]) (hb hby at_35) rfl hr_k0 (own_stV hr_k0 rfl (Or.inl rfl) rfl) ?_
    refine own_iload Y1 hx (pc' := 39) (hb hby at_37) rfl rfl ?_
    refine own_iconst Y1 hx (pc' := 40) (x := (2 : Int32)) (hb hby at_39) rfl (by decide) ?_
    refine own_iand Y1 hx (pc' := 41) (hb hby at_40) rfl (z := (p5 &&& (2 : Int32))) rfl ?_
    have J52 : ∀ (T' : State) (h' : Heap) (k1 : Value), own_S p l e room_1 s m #[(.int p0), (.int p1), (.int p2), (.int p3), (.int p4), (.int p5)] below meth c n0 T' h' 2 2 → own_Kp h1 h' [] → own_Box Z h' k1 → own_Fin p e below (own_KL s n0) (T'.setTop (mkF m 52 #[.val (.int p0), .val (.int p1), .val (.int p2), .val (.int p3), .val (.int p4), .val (.int p5), .val (.int (2 : Int32)), .val (.int (1 : Int32)), .val k0, .unset, .unset, .unset, .unset, .unset, .unset, .unset, .unset, .unset, .unset, .unset, .unset] [k1])) := by
      intro T2 h2 k1 Y2 K2 B2
      have hr_k1 : k1.isRef = true := own_BoxRef B2
      refine own_astore Y2 hx (pc' := 54) (Ls' := #[.val (.int p0), .val (.int p1), .val (.int p2), .val (.int p3), .val (.int p4), .val (.int p5), .val (.int (2 : Int32)), .val (.int (1 : Int32)), .val k0, .val k1, .unset, .unset, .unset, .unset, .unset, .unset, .unset, .unset, .unset, .unset, .unset]) (hb hby at_52) rfl hr_k1 (own_stV hr_k1 rfl (Or.inl rfl) rfl) ?_
      refine own_iload Y2 hx (pc' := 56) (hb hby at_54) rfl rfl ?_
      refine own_iconst Y2 hx (pc' := 57) (x := (4 : Int32)) (hb hby at_56) rfl (by decide) ?_
      refine own_iand Y2 hx (pc' := 58) (hb hby at_57) rfl (z := (p5 &&& (4 : Int32))) rfl ?_
      have J69 : ∀ (T' : State) (h' : Heap) (k2 : Value), own_S p l e room_1 s m #[(.int p0), (.int p1), (.int p2), (.int p3), (.int p4), (.int p5)] below meth c n0 T' h' 3 3 → own_Kp h2 h' [] → own_Box Z h' k2 → own_Fin p e below (own_KL s n0) (T'.setTop (mkF m 69 #[.val (.int p0), .val (.int p1), .val (.int p2), .val (.int p3), .val (.int p4), .val (.int p5), .val (.int (2 : Int32)), .val (.int (1 : Int32)), .val k0, .val k1, .unset, .unset, .unset, .unset, .unset, .unset, .unset, .unset, .unset, .unset, .unset] [k2])) := by
        intro T3 h3 k2 Y3 K3 B3
        have hr_k2 : k2.isRef = true := own_BoxRef B3
        refine own_astore Y3 hx (pc' := 71) (Ls' := #[.val (.int p0), .val (.int p1), .val (.int p2), .val (.int p3), .val (.int p4), .val (.int p5), .val (.int (2 : Int32)), .val (.int (1 : Int32)), .val k0, .val k1, .val k2, .unset, .unset, .unset, .unset, .unset, .unset, .unset, .unset, .unset, .unset]) (hb hby at_69) rfl hr_k2 (own_stV hr_k2 rfl (Or.inl rfl) rfl) ?_
        refine own_iload Y3 hx (pc' := 73) (hb hby at_71) rfl rfl ?_
        refine own_bipush Y3 hx (pc' := 75) (x := (8 : Int32)) (hb hby at_73) rfl (by decide) ?_
        refine own_iand Y3 hx (pc' := 76) (hb hby at_75) rfl (z := (p5 &&& (8 : Int32))) rfl ?_
        have J87 : ∀ (T' : State) (h' : Heap) (v0 : Value), own_S p l e room_1 s m #[(.int p0), (.int p1), (.int p2), (.int p3), (.int p4), (.int p5)] below meth c n0 T' h' 4 4 → own_Kp h3 h' [] → own_Box Z h' v0 → own_Fin p e below (own_KL s n0) (T'.setTop (mkF m 87 #[.val (.int p0), .val (.int p1), .val (.int p2), .val (.int p3), .val (.int p4), .val (.int p5), .val (.int (2 : Int32)), .val (.int (1 : Int32)), .val k0, .val k1, .val k2, .unset, .unset, .unset, .unset, .unset, .unset, .unset, .unset, .unset, .unset] [v0])) := by
          intro T4 h4 v0 Y4 K4 B4
          have hr_v0 : v0.isRef = true := own_BoxRef B4
          refine own_astore Y4 hx (pc' := 89) (Ls' := #[.val (.int p0), .val (.int p1), .val (.int p2), .val (.int p3), .val (.int p4), .val (.int p5), .val (.int (2 : Int32)), .val (.int (1 : Int32)), .val k0, .val k1, .val k2, .val v0, .unset, .unset, .unset, .unset, .unset, .unset, .unset, .unset, .unset]) (hb hby at_87) rfl hr_v0 (own_stV hr_v0 rfl (Or.inl rfl) rfl) ?_
          refine own_iload Y4 hx (pc' := 91) (hb hby at_89) rfl rfl ?_
          refine own_bipush Y4 hx (pc' := 93) (x := (16 : Int32)) (hb hby at_91) rfl (by decide) ?_
          refine own_iand Y4 hx (pc' := 94) (hb hby at_93) rfl (z := (p5 &&& (16 : Int32))) rfl ?_
          have J106 : ∀ (T' : State) (h' : Heap) (v1 : Value), own_S p l e room_1 s m #[(.int p0), (.int p1), (.int p2), (.int p3), (.int p4), (.int p5)] below meth c n0 T' h' 5 5 → own_Kp h4 h' [] → own_Box Z h' v1 → own_Fin p e below (own_KL s n0) (T'.setTop (mkF m 106 #[.val (.int p0), .val (.int p1), .val (.int p2), .val (.int p3), .val (.int p4), .val (.int p5), .val (.int (2 : Int32)), .val (.int (1 : Int32)), .val k0, .val k1, .val k2, .val v0, .unset, .unset, .unset, .unset, .unset, .unset, .unset, .unset, .unset] [v1])) := by
            intro T5 h5 v1 Y5 K5 B5
            have hr_v1 : v1.isRef = true := own_BoxRef B5
            refine own_astore Y5 hx (pc' := 108) (Ls' := #[.val (.int p0), .val (.int p1), .val (.int p2), .val (.int p3), .val (.int p4), .val (.int p5), .val (.int (2 : Int32)), .val (.int (1 : Int32)), .val k0, .val k1, .val k2, .val v0, .val v1, .unset, .unset, .unset, .unset, .unset, .unset, .unset, .unset]) (hb hby at_106) rfl hr_v1 (own_stV hr_v1 rfl (Or.inl rfl) rfl) ?_
            refine own_iload Y5 hx (pc' := 110) (hb hby at_108) rfl rfl ?_
            refine own_bipush Y5 hx (pc' := 112) (x := (32 : Int32)) (hb hby at_110) rfl (by decide) ?_
            refine own_iand Y5 hx (pc' := 113) (hb hby at_112) rfl (z := (p5 &&& (32 : Int32))) rfl ?_
            have J125 : ∀ (T' : State) (h' : Heap) (v2 : Value), own_S p l e room_1 s m #[(.int p0), (.int p1), (.int p2), (.int p3), (.int p4), (.int p5)] below meth c n0 T' h' 6 6 → own_Kp h5 h' [] → own_Box Z h' v2 → own_Fin p e below (own_KL s n0) (T'.setTop (mkF m 125 #[.val (.int p0), .val (.int p1), .val (.int p2), .val (.int p3), .val (.int p4), .val (.int p5), .val (.int (2 : Int32)), .val (.int (1 : Int32)), .val k0, .val k1, .val k2, .val v0, .val v1, .unset, .unset, .unset, .unset, .unset, .unset, .unset, .unset] [v2])) := by
              intro T6 h6 v2 Y6 K6 B6
              have hr_v2 : v2.isRef = true := own_BoxRef B6
              refine own_astore Y6 hx (pc' := 127) (Ls' := #[.val (.int p0), .val (.int p1), .val (.int p2), .val (.int p3), .val (.int p4), .val (.int p5), .val (.int (2 : Int32)), .val (.int (1 : Int32)), .val k0, .val k1, .val k2, .val v0, .val v1, .val v2, .unset, .unset, .unset, .unset, .unset, .unset, .unset]) (hb hby at_125) rfl hr_v2 (own_stV hr_v2 rfl (Or.inl rfl) rfl) ?_
              refine own_iconst Y6 hx (pc' := 128) (x := (4 : Int32)) (hb hby at_127) rfl (by decide) ?_
              have KC8 : own_Kp h0 h6 [] := (((((((own_Kp.refl h0 []).trans K1 own_all0).trans K2 own_all0).trans K3 own_all0).trans K4 own_all0).trans K5 own_all0).trans K6 own_all0)
              refine own_anew Y6 hx (pc' := 131) (cap := 4) (cl' := 7) (sl' := 10) (vs := [.null, .null, .null, .null]) hZ hown (own_w hw 8 rfl) (own_w hw 9 rfl) (hb hby at_128) rfl (by decide) (by decide) (by decide) rfl rfl (by decide) (by decide) rfl (fun T7 h7 b7 k7 Y7 K7 le7 V7 O7 => ?_)
              have sz_b7 : Array.size h0 ≤ b7 := Nat.le_trans KC8.1 le7
              refine own_astore Y7 hx (pc' := 133) (Ls' := #[.val (.int p0), .val (.int p1), .val (.int p2), .val (.int p3), .val (.int p4), .val (.int p5), .val (.int (2 : Int32)), .val (.int (1 : Int32)), .val k0, .val k1, .val k2, .val v0, .val v1, .val v2, .val (.ref b7), .unset, .unset, .unset, .unset, .unset, .unset]) (hb hby at_131) rfl rfl rfl ?_
              refine own_iconst Y7 hx (pc' := 134) (x := (4 : Int32)) (hb hby at_133) rfl (by decide) ?_
              have KC10 : own_Kp h0 h7 [] := (KC8.trans K7 own_all0)
              refine own_anew Y7 hx (pc' := 137) (cap := 4) (cl' := 8) (sl' := 14) (vs := [.null, .null, .null, .null]) hZ hown (own_w hw 8 rfl) (own_w hw 9 rfl) (hb hby at_134) rfl (by decide) (by decide) (by decide) rfl rfl (by decide) (by decide) rfl (fun T9 h9 b9 k9 Y9 K9 le9 V9 O9 => ?_)
              have sz_b9 : Array.size h0 ≤ b9 := Nat.le_trans KC10.1 le9
              refine own_astore Y9 hx (pc' := 139) (Ls' := #[.val (.int p0), .val (.int p1), .val (.int p2), .val (.int p3), .val (.int p4), .val (.int p5), .val (.int (2 : Int32)), .val (.int (1 : Int32)), .val k0, .val k1, .val k2, .val v0, .val v1, .val v2, .val (.ref b7), .val (.ref b9), .unset, .unset, .unset, .unset, .unset]) (hb hby at_137) rfl rfl rfl ?_
              refine own_aload Y9 hx (pc' := 141) (hb hby at_139) rfl rfl rfl ?_
              refine own_iconst Y9 hx (pc' := 142) (x := (0 : Int32)) (hb hby at_141) rfl (by decide) ?_
              refine own_aload Y9 hx (pc' := 144) (hb hby at_142) rfl rfl hr_k0 ?_
              have F12 := (own_A V7 K9 own_out0)
              have F13 := (own_B (own_B (own_B (own_B (own_B (own_B (own_B B1 K2 own_off0) K3 own_off0) K4 own_off0) K5 own_off0) K6 own_off0) K7 own_off0) K9 own_off0)
              refine own_aast Y9 hx (pc' := 145) (i := 0) (vs' := [k0, .null, .null, .null]) hZ F12 (by decide) rfl (by show 0 < 4; decide) rfl (fun _ A q => own_stoB A q O7 F13) (own_fitR rfl hr_k0) (Nat.le_trans Z0 sz_b7) rfl (hb hby at_144) rfl (fun T11 h11 Y11 K11 V11 => ?_)
              refine own_aload Y11 hx (pc' := 147) (hb hby at_145) rfl rfl rfl ?_
              refine own_iconst Y11 hx (pc' := 148) (x := (0 : Int32)) (hb hby at_147) rfl (by decide) ?_
              refine own_aload Y11 hx (pc' := 150) (hb hby at_148) rfl rfl hr_v0 ?_
              have D15 : b7 ≠ b9 := (Nat.ne_of_lt (Nat.lt_of_lt_of_le V7.lt le9))
              have F16 := (own_A V9 K11 (own_out (Ne.symm D15) own_out0))
              have F17 := (own_B (own_B B4 K5 own_off0) K6 own_off0)
              have O18 := (own_offN F17 le7)
              have F19 := (own_B (own_B (own_B (own_B (own_B B4 K5 own_off0) K6 own_off0) K7 own_off0) K9 own_off0) K11 (own_offS O18 own_off0))
              refine own_aast Y11 hx (pc' := 151) (i := 0) (vs' := [v0, .null, .null, .null]) hZ F16 (by decide) rfl (by show 0 < 4; decide) rfl (fun _ A q => own_stoB A q O9 F19) (own_fitR rfl hr_v0) (Nat.le_trans Z0 sz_b9) rfl (hb hby at_150) rfl (fun T14 h14 Y14 K14 V14 => ?_)
              refine own_iload Y14 hx (pc' := 153) (hb hby at_151) rfl rfl ?_
              refine own_iconst Y14 hx (pc' := 154) (x := (2 : Int32)) (hb hby at_153) rfl (by decide) ?_
              refine own_icmpNo Y14 hx (pc' := 157) (hb hby at_154) rfl (by decide) ?_
              refine own_aload Y14 hx (pc' := 159) (hb hby at_157) rfl rfl rfl ?_
              refine own_iconst Y14 hx (pc' := 160) (x := (1 : Int32)) (hb hby at_159) rfl (by decide) ?_
              refine own_aload Y14 hx (pc' := 162) (hb hby at_160) rfl rfl hr_k1 ?_
              have F21 := (own_A V11 K14 (own_out D15 own_out0))
              have F22 := (own_B (own_B (own_B (own_B B2 K3 own_off0) K4 own_off0) K5 own_off0) K6 own_off0)
              have O23 := (own_offN F22 le7)
              have F24 := (own_B F22 K7 own_off0)
              have O25 := (own_offN F24 le9)
              have F26 := (own_B (own_B (own_B (own_B (own_B (own_B (own_B (own_B B2 K3 own_off0) K4 own_off0) K5 own_off0) K6 own_off0) K7 own_off0) K9 own_off0) K11 (own_offS O23 own_off0)) K14 (own_offS O25 own_off0))
              refine own_aast Y14 hx (pc' := 163) (i := 1) (vs' := [k0, k1, .null, .null]) hZ F21 (by decide) rfl (by show 1 < 4; decide) rfl (fun _ A q => own_stoB A q O7 F26) (own_fitR rfl hr_k1) (Nat.le_trans Z0 sz_b7) rfl (hb hby at_162) rfl (fun T20 h20 Y20 K20 V20 => ?_)
              refine own_aload Y20 hx (pc' := 165) (hb hby at_163) rfl rfl rfl ?_
              refine own_iconst Y20 hx (pc' := 166) (x := (1 : Int32)) (hb hby at_165) rfl (by decide) ?_
              refine own_aload Y20 hx (pc' := 168) (hb hby at_166) rfl rfl hr_v1 ?_
              have F28 := (own_A V14 K20 (own_out (Ne.symm D15) own_out0))
              have F29 := (own_B B5 K6 own_off0)
              have O30 := (own_offN F29 le7)
              have F31 := (own_B F29 K7 own_off0)
              have O32 := (own_offN F31 le9)
              have F33 := (own_B (own_B (own_B (own_B (own_B (own_B B5 K6 own_off0) K7 own_off0) K9 own_off0) K11 (own_offS O30 own_off0)) K14 (own_offS O32 own_off0)) K20 (own_offS O30 own_off0))
              refine own_aast Y20 hx (pc' := 169) (i := 1) (vs' := [v0, v1, .null, .null]) hZ F28 (by decide) rfl (by show 1 < 4; decide) rfl (fun _ A q => own_stoB A q O9 F33) (own_fitR rfl hr_v1) (Nat.le_trans Z0 sz_b9) rfl (hb hby at_168) rfl (fun T27 h27 Y27 K27 V27 => ?_)
              refine own_iload Y27 hx (pc' := 171) (hb hby at_169) rfl rfl ?_
              refine own_iconst Y27 hx (pc' := 172) (x := (3 : Int32)) (hb hby at_171) rfl (by decide) ?_
              refine own_icmpYes Y27 hx (pc' := 187) (hb hby at_172) (by decide) (by decide) (by decide) ?_
              have KC35 : own_Kp h0 h27 [] := (((((KC10.trans K9 own_all0).trans K11 (own_allS (Or.inr sz_b7) own_all0)).trans K14 (own_allS (Or.inr sz_b9) own_all0)).trans K20 (own_allS (Or.inr sz_b7) own_all0)).trans K27 (own_allS (Or.inr sz_b9) own_all0))
              refine own_new Y27 hx (pc' := 190) (cl' := 9) (sl' := 25) hZ hown (own_w hw 11 rfl) (own_w hw 12 rfl) (own_w hw 13 rfl) (hb hby at_187) rfl rfl rfl (by decide) (by decide) (fun T34 h34 b34 Y34 K34 le34 E34 D34 => ?_)
              have sz_b34 : Array.size h0 ≤ b34 := Nat.le_trans KC35.1 le34
              refine own_dup Y34 hx (pc' := 191) (hb hby at_190) rfl rfl ?_
              refine own_special Y34 hx (pc' := 194) (W := 1) (cl' := 9) (sl' := 25) (as' := []) (S' := [(.ref b34)]) (a := b34) rfl hZ hown (own_w hw 14 rfl) (own_w hw 15 rfl) (own_w hw 13 rfl) (own_w hw 16 rfl) (by decide) (rm2_1 l Z a0 hw [] b34 h34 n0 (own_sz Y34)) (hb hby at_191) rfl (by rw [hml]; rfl) rfl (lenOf pd___V rfl) rfl (by decide) (by decide) rfl rfl (by decide) (by decide) own_Same.sz (own_fixS (S2 := [(.ref b34)]) rfl (fun T36 Y36 => ?_))
              refine own_astore Y36 hx (pc' := 196) (Ls' := #[.val (.int p0), .val (.int p1), .val (.int p2), .val (.int p3), .val (.int p4), .val (.int p5), .val (.int (2 : Int32)), .val (.int (1 : Int32)), .val k0, .val k1, .val k2, .val v0, .val v1, .val v2, .val (.ref b7), .val (.ref b9), .val (.ref b34), .unset, .unset, .unset, .unset]) (hb hby at_194) rfl rfl rfl ?_
              refine own_aload Y36 hx (pc' := 198) (hb hby at_196) rfl rfl rfl ?_
              refine own_iconst Y36 hx (pc' := 199) (x := (0 : Int32)) (hb hby at_198) rfl (by decide) ?_
              refine own_aload Y36 hx (pc' := 201) (hb hby at_199) rfl rfl hr_k0 ?_
              refine own_aload Y36 hx (pc' := 203) (hb hby at_201) rfl rfl hr_v0 ?_
              have F38 := (own_B (own_B (own_B (own_B (own_B B1 K2 own_off0) K3 own_off0) K4 own_off0) K5 own_off0) K6 own_off0)
              have O39 := (own_offN F38 le7)
              have F40 := (own_B F38 K7 own_off0)
              have O41 := (own_offN F40 le9)
              have F42 := (own_B (own_B (own_B (own_B (own_B F13 K11 (own_offS O39 own_off0)) K14 (own_offS O41 own_off0)) K20 (own_offS O39 own_off0)) K27 (own_offS O41 own_off0)) K34 own_off0)
              have F43 := (own_B F17 K7 own_off0)
              have O44 := (own_offN F43 le9)
              have F45 := (own_B (own_B (own_B (own_B F19 K14 (own_offS O44 own_off0)) K20 (own_offS O18 own_off0)) K27 (own_offS O44 own_off0)) K34 own_off0)
              have F46 := (own_St (own_St (own_St (own_St (own_St (own_St (own_St (own_St (own_St (own_St (own_St (own_St (own_St S_NULL_KEY K1 own_all0) K2 own_all0) K3 own_all0) K4 own_all0) K5 own_all0) K6 own_all0) K7 own_all0) K9 own_all0) K11 (own_allS (own_plainA F12) own_all0)) K14 (own_allS (own_plainA F16) own_all0)) K20 (own_allS (own_plainA F21) own_all0)) K27 (own_allS (own_plainA F28) own_all0)) K34 own_all0)
              have F47 := (own_E (own_E (own_E (own_E (own_E (own_E (own_E (own_E (own_E (own_E (own_E (own_E (own_E E_NULL_KEY K1) K2) K3) K4) K5) K6) K7) K9) K11) K14) K20) K27) K34)
              refine own_virtual Y36 hx (pc' := 206) (W := 0) (cl' := 9) (sl' := 25) (as' := [(.int (0 : Int32)), k0, v0]) (S' := []) (a := b34) hZ hown (own_w hw 20 rfl) (own_w hw 21 rfl) (notFace_of_selects (args := #[]) (mvT hZ (own_w hw 23 rfl))) (own_w hw 23 rfl) (own_w hw 22 rfl) (own_w hw 13 rfl) (own_w hw 24 rfl) (by decide) E34 (rm4_3 l Z a0 hw [] b34 k0 v0 w_NULL_KEY h34 n0 (own_sz Y36) F42 F45 F46 F47 (D34 (Or.inl (own_w hw 31 rfl)) (ty := (.object zs2)) (by decide)) E34 (Nat.le_trans Z0 sz_b34) (D34 (Or.inl (own_w hw 33 rfl)) (ty := (.object zs2)) (by decide))) (hb hby at_203) rfl (by rw [hml]; rfl) rfl (lenOf pd__ILjava_lang_Object_Ljava_lang_Object__V rfl) rfl (by decide) (by decide) rfl rfl (by decide) (by decide) P4_3_sz (own_fixR (S2 := []) rfl (fun T37 h37 Y37 R37 => ?_))
              obtain ⟨K37, G37_0, G37_1⟩ := R37
              refine own_iload Y37 hx (pc' := 208) (hb hby at_206) rfl rfl ?_
              refine own_iconst Y37 hx (pc' := 209) (x := (2 : Int32)) (hb hby at_208) rfl (by decide) ?_
              refine own_icmpNo Y37 hx (pc' := 212) (hb hby at_209) rfl (by decide) ?_
              refine own_aload Y37 hx (pc' := 214) (hb hby at_212) rfl rfl rfl ?_
              refine own_iconst Y37 hx (pc' := 215) (x := (1 : Int32)) (hb hby at_214) rfl (by decide) ?_
              refine own_aload Y37 hx (pc' := 217) (hb hby at_215) rfl rfl hr_k1 ?_
              refine own_aload Y37 hx (pc' := 219) (hb hby at_217) rfl rfl hr_v1 ?_
              have F49 := (own_E E34 K37)
              have F50 := (own_B (own_B F26 K20 (own_offS O23 own_off0)) K27 (own_offS O25 own_off0))
              have O51 := (own_offN F50 le34)
              have F52 := (own_B (own_B (own_B (own_B F26 K20 (own_offS O23 own_off0)) K27 (own_offS O25 own_off0)) K34 own_off0) K37 (own_offS O51 (own_offS O51 own_off0)))
              have F53 := (own_B F33 K27 (own_offS O32 own_off0))
              have O54 := (own_offN F53 le34)
              have F55 := (own_B (own_B (own_B F33 K27 (own_offS O32 own_off0)) K34 own_off0) K37 (own_offS O54 (own_offS O54 own_off0)))
              have F56 := (own_St F46 K37 (own_allS (own_plain E34) (own_allS (own_plain E34) own_all0)))
              have F57 := (own_E F47 K37)
              have F58 := (own_F (v := .null) (D34 (Or.inl (own_w hw 35 rfl)) (ty := (.object zs2)) (by decide)) K37 (own_nr (sl_2 hw) (own_nr (sl_3 hw) own_nin0)))
              have F59 := (own_F (v := .null) (D34 (Or.inl (own_w hw 37 rfl)) (ty := (.object zs2)) (by decide)) K37 (own_nr (sl_4 hw) (own_nr (sl_5 hw) own_nin0)))
              refine own_virtual Y37 hx (pc' := 222) (W := 0) (cl' := 9) (sl' := 25) (as' := [(.int (1 : Int32)), k1, v1]) (S' := []) (a := b34) hZ hown (own_w hw 20 rfl) (own_w hw 21 rfl) (notFace_of_selects (args := #[]) (mvT hZ (own_w hw 23 rfl))) (own_w hw 23 rfl) (own_w hw 22 rfl) (own_w hw 13 rfl) (own_w hw 24 rfl) (by decide) F49 (rm4_16 l Z a0 hw [] b34 k1 v1 w_NULL_KEY h37 n0 (own_sz Y37) F52 F55 F56 F57 F58 F49 (Nat.le_trans Z0 sz_b34) F59) (hb hby at_219) rfl (by rw [hml]; rfl) rfl (lenOf pd__ILjava_lang_Object_Ljava_lang_Object__V rfl) rfl (by decide) (by decide) rfl rfl (by decide) (by decide) P4_16_sz (own_fixR (S2 := []) rfl (fun T48 h48 Y48 R48 => ?_))
              obtain ⟨K48, G48_0, G48_1⟩ := R48
              refine own_iload Y48 hx (pc' := 224) (hb hby at_222) rfl rfl ?_
              refine own_iconst Y48 hx (pc' := 225) (x := (3 : Int32)) (hb hby at_224) rfl (by decide) ?_
              refine own_icmpYes Y48 hx (pc' := 238) (hb hby at_225) (by decide) (by decide) (by decide) ?_
              refine own_aload Y48 hx (pc' := 240) (hb hby at_238) rfl rfl rfl ?_
              refine own_iload Y48 hx (pc' := 242) (hb hby at_240) rfl rfl ?_
              have F61 := (own_E F49 K48)
              have F62 := (own_F (v := .null) (own_F (v := .null) (D34 (Or.inl (own_w hw 44 rfl)) (ty := (.object zs2)) (by decide)) K37 (own_nr (sl_6 hw) (own_nr (sl_7 hw) own_nin0))) K48 (own_nr (sl_12 hw) (own_nr (sl_13 hw) own_nin0)))
              have F63 := (own_B F52 K48 (own_offS O51 (own_offS O51 own_off0)))
              have F64 := (own_F (v := .null) (own_F (v := .null) (D34 (Or.inl (own_w hw 46 rfl)) (ty := (.object zs2)) (by decide)) K37 (own_nr (sl_8 hw) (own_nr (sl_9 hw) own_nin0))) K48 (own_nr (sl_10 hw) (own_nr (sl_14 hw) own_nin0)))
              have F65 := (own_B F55 K48 (own_offS O54 (own_offS O54 own_off0)))
              refine own_virtual Y48 hx (pc' := 245) (W := 0) (cl' := 9) (sl' := 25) (as' := [(.int (1 : Int32))]) (S' := []) (a := b34) hZ hown (own_w hw 38 rfl) (own_w hw 39 rfl) (notFace_of_selects (args := #[]) (mvT hZ (own_w hw 41 rfl))) (own_w hw 41 rfl) (own_w hw 40 rfl) (own_w hw 13 rfl) (own_w hw 42 rfl) (by decide) F61 (rm6_24 l Z a0 hw [] b34 w_NULL_KEY k1 v1 h48 n0 (own_sz Y48) F62 F63 G48_0 F61 (Nat.le_trans Z0 sz_b34) F64 F65 G48_1) (hb hby at_242) rfl (by rw [hml]; rfl) rfl (lenOf pd__I_V rfl) rfl (by decide) (by decide) rfl rfl (by decide) (by decide) P6_24_sz (own_fixR (S2 := []) rfl (fun T60 h60 Y60 R60 => ?_))
              obtain ⟨K60, G60_0, G60_1, G60_2, G60_3⟩ := R60
              refine own_iconst Y60 hx (pc' := 246) (x := (0 : Int32)) (hb hby at_245) rfl (by decide) ?_
              refine own_iload Y60 hx (pc' := 248) (hb hby at_246) rfl rfl ?_
              refine own_icmpNo Y60 hx (pc' := 251) (hb hby at_248) rfl (by decide) ?_
              refine own_iconst Y60 hx (pc' := 252) (x := (0 : Int32)) (hb hby at_251) rfl (by decide) ?_
              refine own_goto Y60 hx (pc' := 256) (hb hby at_252) (by decide) (by decide) ?_
              refine own_istore Y60 hx (pc' := 258) (Ls' := #[.val (.int p0), .val (.int p1), .val (.int p2), .val (.int p3), .val (.int p4), .val (.int p5), .val (.int (2 : Int32)), .val (.int (1 : Int32)), .val k0, .val k1, .val k2, .val v0, .val v1, .val v2, .val (.ref b7), .val (.ref b9), .val (.ref b34), .val (.int (0 : Int32)), .unset, .unset, .unset]) (hb hby at_256) rfl rfl ?_
              refine own_iconst Y60 hx (pc' := 259) (x := (1 : Int32)) (hb hby at_258) rfl (by decide) ?_
              refine own_iload Y60 hx (pc' := 261) (hb hby at_259) rfl rfl ?_
              refine own_icmpYes Y60 hx (pc' := 268) (hb hby at_261) (by decide) (by decide) (by decide) ?_
              refine own_iconst Y60 hx (pc' := 269) (x := (2 : Int32)) (hb hby at_268) rfl (by decide) ?_
              refine own_istore Y60 hx (pc' := 271) (Ls' := #[.val (.int p0), .val (.int p1), .val (.int p2), .val (.int p3), .val (.int p4), .val (.int p5), .val (.int (2 : Int32)), .val (.int (1 : Int32)), .val k0, .val k1, .val k2, .val v0, .val v1, .val v2, .val (.ref b7), .val (.ref b9), .val (.ref b34), .val (.int (0 : Int32)), .val (.int (2 : Int32)), .unset, .unset]) (hb hby at_269) rfl rfl ?_
              refine own_iconst Y60 hx (pc' := 272) (x := (2 : Int32)) (hb hby at_271) rfl (by decide) ?_
              refine own_iload Y60 hx (pc' := 274) (hb hby at_272) rfl rfl ?_
              refine own_icmpYes Y60 hx (pc' := 281) (hb hby at_274) (by decide) (by decide) (by decide) ?_
              refine own_iconst Y60 hx (pc' := 282) (x := (3 : Int32)) (hb hby at_281) rfl (by decide) ?_
              refine own_istore Y60 hx (pc' := 284) (Ls' := #[.val (.int p0), .val (.int p1), .val (.int p2), .val (.int p3), .val (.int p4), .val (.int p5), .val (.int (2 : Int32)), .val (.int (1 : Int32)), .val k0, .val k1, .val k2, .val v0, .val v1, .val v2, .val (.ref b7), .val (.ref b9), .val (.ref b34), .val (.int (0 : Int32)), .val (.int (2 : Int32)), .val (.int (3 : Int32)), .unset]) (hb hby at_282) rfl rfl ?_
              refine own_aload Y60 hx (pc' := 286) (hb hby at_284) rfl rfl rfl ?_
              have F67 := (own_E F61 K60)
              have F68 := (own_F (v := (.ref (own_sa w_NULL_KEY k0))) (own_F (v := (.ref (own_sa w_NULL_KEY k0))) G37_0 K48 (own_nr (sl_16 hw) (own_nr (sl_17 hw) own_nin0))) K60 (own_nr (sl_16 hw) (own_nr (sl_17 hw) (own_nr (sl_18 hw) (own_nr (sl_19 hw) own_nin0)))))
              have F69 := (own_B (own_B (own_B (own_B F13 K11 (own_offS O39 own_off0)) K14 (own_offS O41 own_off0)) K20 (own_offS O39 own_off0)) K27 (own_offS O41 own_off0))
              have O70 := (own_offN F69 le34)
              have F71 := (own_B (own_B (own_B F42 K37 (own_offS O70 (own_offS O70 own_off0))) K48 (own_offS O70 (own_offS O70 own_off0))) K60 (own_offS O70 (own_offS O70 (own_offS O70 (own_offS O70 own_off0)))))
              refine own_virtual Y60 hx (pc' := 289) (W := 0) (cl' := 9) (sl' := 25) (as' := []) (S' := []) (a := b34) hZ hown (own_w hw 47 rfl) (own_w hw 48 rfl) (notFace_of_selects (args := #[]) (mvT hZ (own_w hw 50 rfl))) (own_w hw 50 rfl) (own_w hw 49 rfl) (own_w hw 13 rfl) (own_w hw 51 rfl) (by decide) F67 (rm7_25 l Z a0 hw [] b34 w_NULL_KEY k0 h60 n0 (own_sz Y60) F71 F68 G60_0) (hb hby at_286) rfl (by rw [hml]; rfl) rfl (lenOf pd___I rfl) rfl (by decide) (by decide) rfl rfl (by decide) (by decide) own_Same.sz (own_fixS (S2 := [(.int (1 : Int32))]) rfl (fun T66 Y66 => ?_))
              refine own_iload Y66 hx (pc' := 291) (hb hby at_289) rfl rfl ?_
              refine own_iconst Y66 hx (pc' := 292) (x := (1 : Int32)) (hb hby at_291) rfl (by decide) ?_
              refine own_isub Y66 hx (pc' := 293) (hb hby at_292) rfl (z := (1 : Int32)) (by decide) ?_
              refine own_icmpNo Y66 hx (pc' := 296) (hb hby at_293) rfl (by decide) ?_
              refine own_iconst Y66 hx (pc' := 297) (x := (1 : Int32)) (hb hby at_296) rfl (by decide) ?_
              refine own_goto Y66 hx (pc' := 301) (hb hby at_297) (by decide) (by decide) ?_
              refine own_istore Y66 hx (pc' := 303) (Ls' := #[.val (.int p0), .val (.int p1), .val (.int p2), .val (.int p3), .val (.int p4), .val (.int p5), .val (.int (2 : Int32)), .val (.int (1 : Int32)), .val k0, .val k1, .val k2, .val v0, .val v1, .val v2, .val (.ref b7), .val (.ref b9), .val (.ref b34), .val (.int (0 : Int32)), .val (.int (2 : Int32)), .val (.int (3 : Int32)), .val (.int (1 : Int32))]) (hb hby at_301) rfl rfl ?_
              refine own_iload Y66 hx (pc' := 305) (hb hby at_303) rfl rfl ?_
              refine own_ifNo Y66 hx (pc' := 308) (hb hby at_305) rfl (by decide) ?_
              refine own_aload Y66 hx (pc' := 310) (hb hby at_308) rfl rfl rfl ?_
              refine own_iconst Y66 hx (pc' := 311) (x := (0 : Int32)) (hb hby at_310) rfl (by decide) ?_
              have F73 := (own_E (own_E F57 K48) K60)
              have F74 := (own_St (own_St F56 K48 (own_allS (own_plain F49) (own_allS (own_plain F49) own_all0))) K60 (own_allS (own_plain F61) (own_allS (own_plain F61) (own_allS (own_plain F61) (own_allS (own_plain F61) own_all0)))))
              refine own_virtual Y66 hx (pc' := 314) (W := 0) (cl' := 9) (sl' := 25) (as' := [(.int (0 : Int32))]) (S' := []) (a := b34) hZ hown (own_w hw 52 rfl) (own_w hw 53 rfl) (notFace_of_selects (args := #[]) (mvT hZ (own_w hw 55 rfl))) (own_w hw 55 rfl) (own_w hw 54 rfl) (own_w hw 13 rfl) (own_w hw 56 rfl) (by decide) F67 (rm8_26 l Z a0 hw [] b34 w_NULL_KEY k0 h60 n0 (own_sz Y66) F71 F68 F73 F74) (hb hby at_311) rfl (by rw [hml]; rfl) rfl (lenOf pd__I_Ljava_lang_Object_ rfl) rfl (by decide) (by decide) rfl rfl (by decide) (by decide) own_Same.sz (own_fixS (S2 := [k0]) rfl (fun T72 Y72 => ?_))
              refine own_castB Y72 hx (pc' := 317) hZ hown (own_w hw 8 rfl) F71 (hb hby at_314) rfl (fun T75 Y75 => ?_)
              refine own_aload Y75 hx (pc' := 319) (hb hby at_317) rfl rfl rfl ?_
              refine own_iload Y75 hx (pc' := 321) (hb hby at_319) rfl rfl ?_
              have F77 := (own_A V20 K27 (own_out D15 own_out0))
              have D78 : b7 ≠ b34 := (Nat.ne_of_lt (Nat.lt_of_lt_of_le F77.lt le34))
              have F79 := (own_A (own_A (own_A (own_A (own_A V20 K27 (own_out D15 own_out0)) K34 own_out0) K37 (own_out D78 (own_out D78 own_out0))) K48 (own_out D78 (own_out D78 own_out0))) K60 (own_out D78 (own_out D78 (own_out D78 (own_out D78 own_out0)))))
              refine own_aald Y75 hx (pc' := 322) (v := k0) hZ F79 (by decide) rfl rfl (hb hby at_321) rfl ?_
              refine own_static Y75 hx (pc' := 325) (W := 0) (cl' := 9) (sl' := 25) (as' := [k0, k0]) (S' := []) hZ hown (own_w hw 60 rfl) (own_w hw 61 rfl) (own_w hw 62 rfl) (own_w hw 63 rfl) (by decide) (rm10_22 l Z a0 hw [] k0 h60 n0 (own_sz Y75) F71) (hb hby at_322) rfl (by rw [hml]; rfl) rfl (lenOf pd__Ljava_lang_Integer_Ljava_lang_Integer__Z rfl) rfl (by decide) (by decide) rfl rfl (by decide) (by decide) own_Same.sz (own_fixS (S2 := [(.int (1 : Int32))]) rfl (fun T80 Y80 => ?_))
              refine own_ifNo Y80 hx (pc' := 328) (hb hby at_325) rfl (by decide) ?_
              refine own_iconst Y80 hx (pc' := 329) (x := (1 : Int32)) (hb hby at_328) rfl (by decide) ?_
              refine own_goto Y80 hx (pc' := 333) (hb hby at_329) (by decide) (by decide) ?_
              refine own_istore Y80 hx (pc' := 335) (Ls' := #[.val (.int p0), .val (.int p1), .val (.int p2), .val (.int p3), .val (.int p4), .val (.int p5), .val (.int (2 : Int32)), .val (.int (1 : Int32)), .val k0, .val k1, .val k2, .val v0, .val v1, .val v2, .val (.ref b7), .val (.ref b9), .val (.ref b34), .val (.int (0 : Int32)), .val (.int (2 : Int32)), .val (.int (3 : Int32)), .val (.int (1 : Int32))]) (hb hby at_333) rfl rfl ?_
              refine own_iload Y80 hx (pc' := 337) (hb hby at_335) rfl rfl ?_
              refine own_ifNo Y80 hx (pc' := 340) (hb hby at_337) rfl (by decide) ?_
              refine own_aload Y80 hx (pc' := 342) (hb hby at_340) rfl rfl rfl ?_
              refine own_iconst Y80 hx (pc' := 343) (x := (1 : Int32)) (hb hby at_342) rfl (by decide) ?_
              refine own_virtual Y80 hx (pc' := 346) (W := 0) (cl' := 9) (sl' := 25) (as' := [(.int (1 : Int32))]) (S' := []) (a := b34) hZ hown (own_w hw 52 rfl) (own_w hw 53 rfl) (notFace_of_selects (args := #[]) (mvT hZ (own_w hw 55 rfl))) (own_w hw 55 rfl) (own_w hw 54 rfl) (own_w hw 13 rfl) (own_w hw 56 rfl) (by decide) F67 (rm8_9 l Z a0 hw [] b34 w_NULL_KEY h60 n0 (own_sz Y80) G60_0 F74) (hb hby at_343) rfl (by rw [hml]; rfl) rfl (lenOf pd__I_Ljava_lang_Object_ rfl) rfl (by decide) (by decide) rfl rfl (by decide) (by decide) own_Same.sz (own_fixS (S2 := [.null]) rfl (fun T81 Y81 => ?_))
              refine own_castNull Y81 hx (pc' := 349) (hb hby at_346) rfl ?_
              refine own_aload Y81 hx (pc' := 351) (hb hby at_349) rfl rfl rfl ?_
              refine own_iload Y81 hx (pc' := 353) (hb hby at_351) rfl rfl ?_
              refine own_aald Y81 hx (pc' := 354) (v := .null) hZ F79 (by decide) rfl rfl (hb hby at_353) rfl ?_
              refine own_static Y81 hx (pc' := 357) (W := 0) (cl' := 9) (sl' := 25) (as' := [.null, .null]) (S' := []) hZ hown (own_w hw 60 rfl) (own_w hw 61 rfl) (own_w hw 62 rfl) (own_w hw 63 rfl) (by decide) (rm10_8 l Z a0 hw []  h60 n0 (own_sz Y81)) (hb hby at_354) rfl (by rw [hml]; rfl) rfl (lenOf pd__Ljava_lang_Integer_Ljava_lang_Integer__Z rfl) rfl (by decide) (by decide) rfl rfl (by decide) (by decide) own_Same.sz (own_fixS (S2 := [(.int (1 : Int32))]) rfl (fun T83 Y83 => ?_))
              refine own_ifNo Y83 hx (pc' := 360) (hb hby at_357) rfl (by decide) ?_
              refine own_iconst Y83 hx (pc' := 361) (x := (1 : Int32)) (hb hby at_360) rfl (by decide) ?_
              refine own_goto Y83 hx (pc' := 365) (hb hby at_361) (by decide) (by decide) ?_
              refine own_istore Y83 hx (pc' := 367) (Ls' := #[.val (.int p0), .val (.int p1), .val (.int p2), .val (.int p3), .val (.int p4), .val (.int p5), .val (.int (2 : Int32)), .val (.int (1 : Int32)), .val k0, .val k1, .val k2, .val v0, .val v1, .val v2, .val (.ref b7), .val (.ref b9), .val (.ref b34), .val (.int (0 : Int32)), .val (.int (2 : Int32)), .val (.int (3 : Int32)), .val (.int (1 : Int32))]) (hb hby at_365) rfl rfl ?_
              refine own_iload Y83 hx (pc' := 369) (hb hby at_367) rfl rfl ?_
              refine own_ifNo Y83 hx (pc' := 372) (hb hby at_369) rfl (by decide) ?_
              refine own_aload Y83 hx (pc' := 374) (hb hby at_372) rfl rfl rfl ?_
              refine own_iconst Y83 hx (pc' := 375) (x := (0 : Int32)) (hb hby at_374) rfl (by decide) ?_
              have F85 := (own_F (v := v0) (own_F (v := v0) G37_1 K48 (own_nr (sl_20 hw) (own_nr (sl_21 hw) own_nin0))) K60 (own_nr (sl_20 hw) (own_nr (sl_21 hw) (own_nr (sl_22 hw) (own_nr (sl_23 hw) own_nin0)))))
              have F86 := (own_B (own_B (own_B F19 K14 (own_offS O44 own_off0)) K20 (own_offS O18 own_off0)) K27 (own_offS O44 own_off0))
              have O87 := (own_offN F86 le34)
              have F88 := (own_B (own_B (own_B F45 K37 (own_offS O87 (own_offS O87 own_off0))) K48 (own_offS O87 (own_offS O87 own_off0))) K60 (own_offS O87 (own_offS O87 (own_offS O87 (own_offS O87 own_off0)))))
              refine own_virtual Y83 hx (pc' := 378) (W := 0) (cl' := 9) (sl' := 25) (as' := [(.int (0 : Int32))]) (S' := []) (a := b34) hZ hown (own_w hw 64 rfl) (own_w hw 65 rfl) (notFace_of_selects (args := #[]) (mvT hZ (own_w hw 67 rfl))) (own_w hw 67 rfl) (own_w hw 66 rfl) (own_w hw 13 rfl) (own_w hw 68 rfl) (by decide) F67 (rm11_27 l Z a0 hw [] b34 v0 h60 n0 (own_sz Y83) F88 F85) (hb hby at_375) rfl (by rw [hml]; rfl) rfl (lenOf pd__I_Ljava_lang_Object_ rfl) rfl (by decide) (by decide) rfl rfl (by decide) (by decide) own_Same.sz (own_fixS (S2 := [v0]) rfl (fun T84 Y84 => ?_))
              refine own_castB Y84 hx (pc' := 381) hZ hown (own_w hw 8 rfl) F88 (hb hby at_378) rfl (fun T89 Y89 => ?_)
              refine own_aload Y89 hx (pc' := 383) (hb hby at_381) rfl rfl rfl ?_
              refine own_iload Y89 hx (pc' := 385) (hb hby at_383) rfl rfl ?_
              have D91 : b9 ≠ b34 := (Nat.ne_of_lt (Nat.lt_of_lt_of_le V27.lt le34))
              have F92 := (own_A (own_A (own_A (own_A V27 K34 own_out0) K37 (own_out D91 (own_out D91 own_out0))) K48 (own_out D91 (own_out D91 own_out0))) K60 (own_out D91 (own_out D91 (own_out D91 (own_out D91 own_out0)))))
              refine own_aald Y89 hx (pc' := 386) (v := v0) hZ F92 (by decide) rfl rfl (hb hby at_385) rfl ?_
              refine own_static Y89 hx (pc' := 389) (W := 0) (cl' := 9) (sl' := 25) (as' := [v0, v0]) (S' := []) hZ hown (own_w hw 60 rfl) (own_w hw 61 rfl) (own_w hw 62 rfl) (own_w hw 63 rfl) (by decide) (rm10_22 l Z a0 hw [] v0 h60 n0 (own_sz Y89) F88) (hb hby at_386) rfl (by rw [hml]; rfl) rfl (lenOf pd__Ljava_lang_Integer_Ljava_lang_Integer__Z rfl) rfl (by decide) (by decide) rfl rfl (by decide) (by decide) own_Same.sz (own_fixS (S2 := [(.int (1 : Int32))]) rfl (fun T93 Y93 => ?_))
              refine own_ifNo Y93 hx (pc' := 392) (hb hby at_389) rfl (by decide) ?_
              refine own_iconst Y93 hx (pc' := 393) (x := (1 : Int32)) (hb hby at_392) rfl (by decide) ?_
              refine own_goto Y93 hx (pc' := 397) (hb hby at_393) (by decide) (by decide) ?_
              refine own_istore Y93 hx (pc' := 399) (Ls' := #[.val (.int p0), .val (.int p1), .val (.int p2), .val (.int p3), .val (.int p4), .val (.int p5), .val (.int (2 : Int32)), .val (.int (1 : Int32)), .val k0, .val k1, .val k2, .val v0, .val v1, .val v2, .val (.ref b7), .val (.ref b9), .val (.ref b34), .val (.int (0 : Int32)), .val (.int (2 : Int32)), .val (.int (3 : Int32)), .val (.int (1 : Int32))]) (hb hby at_397) rfl rfl ?_
              refine own_iload Y93 hx (pc' := 401) (hb hby at_399) rfl rfl ?_
              refine own_ifNo Y93 hx (pc' := 404) (hb hby at_401) rfl (by decide) ?_
              refine own_aload Y93 hx (pc' := 406) (hb hby at_404) rfl rfl rfl ?_
              refine own_iconst Y93 hx (pc' := 407) (x := (1 : Int32)) (hb hby at_406) rfl (by decide) ?_
              refine own_virtual Y93 hx (pc' := 410) (W := 0) (cl' := 9) (sl' := 25) (as' := [(.int (1 : Int32))]) (S' := []) (a := b34) hZ hown (own_w hw 64 rfl) (own_w hw 65 rfl) (notFace_of_selects (args := #[]) (mvT hZ (own_w hw 67 rfl))) (own_w hw 67 rfl) (own_w hw 66 rfl) (own_w hw 13 rfl) (own_w hw 68 rfl) (by decide) F67 (rm11_11 l Z a0 hw [] b34 h60 n0 (own_sz Y93) G60_1) (hb hby at_407) rfl (by rw [hml]; rfl) rfl (lenOf pd__I_Ljava_lang_Object_ rfl) rfl (by decide) (by decide) rfl rfl (by decide) (by decide) own_Same.sz (own_fixS (S2 := [.null]) rfl (fun T94 Y94 => ?_))
              refine own_castNull Y94 hx (pc' := 413) (hb hby at_410) rfl ?_
              refine own_aload Y94 hx (pc' := 415) (hb hby at_413) rfl rfl rfl ?_
              refine own_iload Y94 hx (pc' := 417) (hb hby at_415) rfl rfl ?_
              refine own_aald Y94 hx (pc' := 418) (v := .null) hZ F92 (by decide) rfl rfl (hb hby at_417) rfl ?_
              refine own_static Y94 hx (pc' := 421) (W := 0) (cl' := 9) (sl' := 25) (as' := [.null, .null]) (S' := []) hZ hown (own_w hw 60 rfl) (own_w hw 61 rfl) (own_w hw 62 rfl) (own_w hw 63 rfl) (by decide) (rm10_8 l Z a0 hw []  h60 n0 (own_sz Y94)) (hb hby at_418) rfl (by rw [hml]; rfl) rfl (lenOf pd__Ljava_lang_Integer_Ljava_lang_Integer__Z rfl) rfl (by decide) (by decide) rfl rfl (by decide) (by decide) own_Same.sz (own_fixS (S2 := [(.int (1 : Int32))]) rfl (fun T96 Y96 => ?_))
              refine own_ifNo Y96 hx (pc' := 424) (hb hby at_421) rfl (by decide) ?_
              refine own_iconst Y96 hx (pc' := 425) (x := (1 : Int32)) (hb hby at_424) rfl (by decide) ?_
              refine own_goto Y96 hx (pc' := 429) (hb hby at_425) (by decide) (by decide) ?_
              refine own_istore Y96 hx (pc' := 431) (Ls' := #[.val (.int p0), .val (.int p1), .val (.int p2), .val (.int p3), .val (.int p4), .val (.int p5), .val (.int (2 : Int32)), .val (.int (1 : Int32)), .val k0, .val k1, .val k2, .val v0, .val v1, .val v2, .val (.ref b7), .val (.ref b9), .val (.ref b34), .val (.int (0 : Int32)), .val (.int (2 : Int32)), .val (.int (3 : Int32)), .val (.int (1 : Int32))]) (hb hby at_429) rfl rfl ?_
              refine own_iload Y96 hx (pc' := 433) (hb hby at_431) rfl rfl ?_
              refine own_ifNo Y96 hx (pc' := 436) (hb hby at_433) rfl (by decide) ?_
              refine own_aload Y96 hx (pc' := 438) (hb hby at_436) rfl rfl rfl ?_
              refine own_iconst Y96 hx (pc' := 439) (x := (2 : Int32)) (hb hby at_438) rfl (by decide) ?_
              refine own_virtual Y96 hx (pc' := 442) (W := 0) (cl' := 9) (sl' := 25) (as' := [(.int (2 : Int32))]) (S' := []) (a := b34) hZ hown (own_w hw 64 rfl) (own_w hw 65 rfl) (notFace_of_selects (args := #[]) (mvT hZ (own_w hw 67 rfl))) (own_w hw 67 rfl) (own_w hw 66 rfl) (own_w hw 13 rfl) (own_w hw 68 rfl) (by decide) F67 (rm11_12 l Z a0 hw [] b34 h60 n0 (own_sz Y96) G60_3) (hb hby at_439) rfl (by rw [hml]; rfl) rfl (lenOf pd__I_Ljava_lang_Object_ rfl) rfl (by decide) (by decide) rfl rfl (by decide) (by decide) own_Same.sz (own_fixS (S2 := [.null]) rfl (fun T97 Y97 => ?_))
              refine own_castNull Y97 hx (pc' := 445) (hb hby at_442) rfl ?_
              refine own_aload Y97 hx (pc' := 447) (hb hby at_445) rfl rfl rfl ?_
              refine own_iload Y97 hx (pc' := 449) (hb hby at_447) rfl rfl ?_
              refine own_aald Y97 hx (pc' := 450) (v := .null) hZ F92 (by decide) rfl rfl (hb hby at_449) rfl ?_
              refine own_static Y97 hx (pc' := 453) (W := 0) (cl' := 9) (sl' := 25) (as' := [.null, .null]) (S' := []) hZ hown (own_w hw 60 rfl) (own_w hw 61 rfl) (own_w hw 62 rfl) (own_w hw 63 rfl) (by decide) (rm10_8 l Z a0 hw []  h60 n0 (own_sz Y97)) (hb hby at_450) rfl (by rw [hml]; rfl) rfl (lenOf pd__Ljava_lang_Integer_Ljava_lang_Integer__Z rfl) rfl (by decide) (by decide) rfl rfl (by decide) (by decide) own_Same.sz (own_fixS (S2 := [(.int (1 : Int32))]) rfl (fun T99 Y99 => ?_))
              refine own_ifNo Y99 hx (pc' := 456) (hb hby at_453) rfl (by decide) ?_
              refine own_iconst Y99 hx (pc' := 457) (x := (1 : Int32)) (hb hby at_456) rfl (by decide) ?_
              refine own_goto Y99 hx (pc' := 461) (hb hby at_457) (by decide) (by decide) ?_
              refine own_istore Y99 hx (pc' := 463) (Ls' := #[.val (.int p0), .val (.int p1), .val (.int p2), .val (.int p3), .val (.int p4), .val (.int p5), .val (.int (2 : Int32)), .val (.int (1 : Int32)), .val k0, .val k1, .val k2, .val v0, .val v1, .val v2, .val (.ref b7), .val (.ref b9), .val (.ref b34), .val (.int (0 : Int32)), .val (.int (2 : Int32)), .val (.int (3 : Int32)), .val (.int (1 : Int32))]) (hb hby at_461) rfl rfl ?_
              refine own_iload Y99 hx (pc' := 465) (hb hby at_463) rfl rfl ?_
              exact own_retN Y99 hx hlk Bd.returns rfl (by simp) (hb hby at_465) ⟨rfl, trivial⟩ (by decide) (by decide)
            by_cases qF100 : (p5 &&& (32 : Int32)) = (0 : Int32)
            ·
              refine own_ifYes Y5 hx (pc' := 120) (hb hby at_113) ((if0 _ _).trans (teq qF100).1) (by decide) (by decide) ?_
              refine own_bipush Y5 hx (pc' := 122) (x := (-3 : Int32)) (hb hby at_120) rfl (by decide) ?_
              have F102 := (own_St (own_St (own_St (own_St (own_St S_high K1 own_all0) K2 own_all0) K3 own_all0) K4 own_all0) K5 own_all0)
              have F103 := (own_St (own_St (own_St (own_St (own_St S_cache K1 own_all0) K2 own_all0) K3 own_all0) K4 own_all0) K5 own_all0)
              have F104 := (own_CacheK (own_CacheK (own_CacheK (own_CacheK (own_CacheK H_cache K1) K2) K3) K4) K5)
              refine own_static Y5 hx (pc' := 125) (W := 0) (cl' := 6) (sl' := 6) (as' := [(.int (-3 : Int32))]) (S' := []) hZ hown (own_w hw 1 rfl) (own_w hw 2 rfl) (own_w hw 3 rfl) (own_w hw 4 rfl) (by decide) (rm1_15 l Z a0 hw [] (-3 : Int32) w_cache h5 n0 (own_sz Y5) F102 F103 F104) (hb hby at_122) rfl (by rw [hml]; rfl) rfl (lenOf pd__I_Ljava_lang_Integer_ rfl) rfl (by decide) (by decide) rfl rfl (by decide) (by decide) own_PV_sz (fun T101 h101 v101 Y101 R101 => ?_)
              obtain ⟨b101_0, rfl, K101, E101, F101⟩ := R101
              show own_Fin p e below _ (T101.setTop (mkF m 125 #[.val (.int p0), .val (.int p1), .val (.int p2), .val (.int p3), .val (.int p4), .val (.int p5), .val (.int (2 : Int32)), .val (.int (1 : Int32)), .val k0, .val k1, .val k2, .val v0, .val v1, .unset, .unset, .unset, .unset, .unset, .unset, .unset, .unset] [(.ref b101_0)]))
              exact J125 _ _ _ Y101 K101 (Or.inr ⟨b101_0, _, rfl, E101, F101⟩)
            ·
              refine own_ifNo Y5 hx (pc' := 116) (hb hby at_113) rfl ((if0 _ _).trans (feq qF100).1) ?_
              refine own_aconstNull Y5 hx (pc' := 117) (hb hby at_116) rfl ?_
              refine own_goto Y5 hx (pc' := 125) (hb hby at_117) (by decide) (by decide) ?_
              exact J125 _ _ .null (own_more Y5 (by decide) (by decide)) (own_Kp.refl _ _) (Or.inl rfl)
          by_cases qF105 : (p5 &&& (16 : Int32)) = (0 : Int32)
          ·
            refine own_ifYes Y4 hx (pc' := 101) (hb hby at_94) ((if0 _ _).trans (teq qF105).1) (by decide) (by decide) ?_
            refine own_bipush Y4 hx (pc' := 103) (x := (-2 : Int32)) (hb hby at_101) rfl (by decide) ?_
            have F107 := (own_St (own_St (own_St (own_St S_high K1 own_all0) K2 own_all0) K3 own_all0) K4 own_all0)
            have F108 := (own_St (own_St (own_St (own_St S_cache K1 own_all0) K2 own_all0) K3 own_all0) K4 own_all0)
            have F109 := (own_CacheK (own_CacheK (own_CacheK (own_CacheK H_cache K1) K2) K3) K4)
            refine own_static Y4 hx (pc' := 106) (W := 0) (cl' := 5) (sl' := 5) (as' := [(.int (-2 : Int32))]) (S' := []) hZ hown (own_w hw 1 rfl) (own_w hw 2 rfl) (own_w hw 3 rfl) (own_w hw 4 rfl) (by decide) (rm1_15 l Z a0 hw [] (-2 : Int32) w_cache h4 n0 (own_sz Y4) F107 F108 F109) (hb hby at_103) rfl (by rw [hml]; rfl) rfl (lenOf pd__I_Ljava_lang_Integer_ rfl) rfl (by decide) (by decide) rfl rfl (by decide) (by decide) own_PV_sz (fun T106 h106 v106 Y106 R106 => ?_)
            obtain ⟨b106_0, rfl, K106, E106, F106⟩ := R106
            show own_Fin p e below _ (T106.setTop (mkF m 106 #[.val (.int p0), .val (.int p1), .val (.int p2), .val (.int p3), .val (.int p4), .val (.int p5), .val (.int (2 : Int32)), .val (.int (1 : Int32)), .val k0, .val k1, .val k2, .val v0, .unset, .unset, .unset, .unset, .unset, .unset, .unset, .unset, .unset] [(.ref b106_0)]))
            exact J106 _ _ _ Y106 K106 (Or.inr ⟨b106_0, _, rfl, E106, F106⟩)
          ·
            refine own_ifNo Y4 hx (pc' := 97) (hb hby at_94) rfl ((if0 _ _).trans (feq qF105).1) ?_
            refine own_aconstNull Y4 hx (pc' := 98) (hb hby at_97) rfl ?_
            refine own_goto Y4 hx (pc' := 106) (hb hby at_98) (by decide) (by decide) ?_
            exact J106 _ _ .null (own_more Y4 (by decide) (by decide)) (own_Kp.refl _ _) (Or.inl rfl)
        by_cases qF110 : (p5 &&& (8 : Int32)) = (0 : Int32)
        ·
          refine own_ifYes Y3 hx (pc' := 83) (hb hby at_76) ((if0 _ _).trans (teq qF110).1) (by decide) (by decide) ?_
          refine own_iconst Y3 hx (pc' := 84) (x := (-1 : Int32)) (hb hby at_83) rfl (by decide) ?_
          have F112 := (own_St (own_St (own_St S_high K1 own_all0) K2 own_all0) K3 own_all0)
          have F113 := (own_St (own_St (own_St S_cache K1 own_all0) K2 own_all0) K3 own_all0)
          have F114 := (own_CacheK (own_CacheK (own_CacheK H_cache K1) K2) K3)
          refine own_static Y3 hx (pc' := 87) (W := 0) (cl' := 4) (sl' := 4) (as' := [(.int (-1 : Int32))]) (S' := []) hZ hown (own_w hw 1 rfl) (own_w hw 2 rfl) (own_w hw 3 rfl) (own_w hw 4 rfl) (by decide) (rm1_15 l Z a0 hw [] (-1 : Int32) w_cache h3 n0 (own_sz Y3) F112 F113 F114) (hb hby at_84) rfl (by rw [hml]; rfl) rfl (lenOf pd__I_Ljava_lang_Integer_ rfl) rfl (by decide) (by decide) rfl rfl (by decide) (by decide) own_PV_sz (fun T111 h111 v111 Y111 R111 => ?_)
          obtain ⟨b111_0, rfl, K111, E111, F111⟩ := R111
          show own_Fin p e below _ (T111.setTop (mkF m 87 #[.val (.int p0), .val (.int p1), .val (.int p2), .val (.int p3), .val (.int p4), .val (.int p5), .val (.int (2 : Int32)), .val (.int (1 : Int32)), .val k0, .val k1, .val k2, .unset, .unset, .unset, .unset, .unset, .unset, .unset, .unset, .unset, .unset] [(.ref b111_0)]))
          exact J87 _ _ _ Y111 K111 (Or.inr ⟨b111_0, _, rfl, E111, F111⟩)
        ·
          refine own_ifNo Y3 hx (pc' := 79) (hb hby at_76) rfl ((if0 _ _).trans (feq qF110).1) ?_
          refine own_aconstNull Y3 hx (pc' := 80) (hb hby at_79) rfl ?_
          refine own_goto Y3 hx (pc' := 87) (hb hby at_80) (by decide) (by decide) ?_
          exact J87 _ _ .null (own_more Y3 (by decide) (by decide)) (own_Kp.refl _ _) (Or.inl rfl)
      by_cases qF115 : (p5 &&& (4 : Int32)) = (0 : Int32)
      ·
        refine own_ifYes Y2 hx (pc' := 65) (hb hby at_58) ((if0 _ _).trans (teq qF115).1) (by decide) (by decide) ?_
        refine own_iloadN Y2 hx (pc' := 66) (hb hby at_65) rfl rfl ?_
        have F117 := (own_St (own_St S_high K1 own_all0) K2 own_all0)
        have F118 := (own_St (own_St S_cache K1 own_all0) K2 own_all0)
        have F119 := (own_CacheK (own_CacheK H_cache K1) K2)
        refine own_static Y2 hx (pc' := 69) (W := 0) (cl' := 3) (sl' := 3) (as' := [(.int p2)]) (S' := []) hZ hown (own_w hw 1 rfl) (own_w hw 2 rfl) (own_w hw 3 rfl) (own_w hw 4 rfl) (by decide) (rm1_15 l Z a0 hw [] p2 w_cache h2 n0 (own_sz Y2) F117 F118 F119) (hb hby at_66) rfl (by rw [hml]; rfl) rfl (lenOf pd__I_Ljava_lang_Integer_ rfl) rfl (by decide) (by decide) rfl rfl (by decide) (by decide) own_PV_sz (fun T116 h116 v116 Y116 R116 => ?_)
        obtain ⟨b116_0, rfl, K116, E116, F116⟩ := R116
        show own_Fin p e below _ (T116.setTop (mkF m 69 #[.val (.int p0), .val (.int p1), .val (.int p2), .val (.int p3), .val (.int p4), .val (.int p5), .val (.int (2 : Int32)), .val (.int (1 : Int32)), .val k0, .val k1, .unset, .unset, .unset, .unset, .unset, .unset, .unset, .unset, .unset, .unset, .unset] [(.ref b116_0)]))
        exact J69 _ _ _ Y116 K116 (Or.inr ⟨b116_0, _, rfl, E116, F116⟩)
      ·
        refine own_ifNo Y2 hx (pc' := 61) (hb hby at_58) rfl ((if0 _ _).trans (feq qF115).1) ?_
        refine own_aconstNull Y2 hx (pc' := 62) (hb hby at_61) rfl ?_
        refine own_goto Y2 hx (pc' := 69) (hb hby at_62) (by decide) (by decide) ?_
        exact J69 _ _ .null (own_more Y2 (by decide) (by decide)) (own_Kp.refl _ _) (Or.inl rfl)
    by_cases qF120 : (p5 &&& (2 : Int32)) = (0 : Int32)
    ·
      refine own_ifYes Y1 hx (pc' := 48) (hb hby at_41) ((if0 _ _).trans (teq qF120).1) (by decide) (by decide) ?_
      refine own_iloadN Y1 hx (pc' := 49) (hb hby at_48) rfl rfl ?_
      have F122 := (own_St S_high K1 own_all0)
      have F123 := (own_St S_cache K1 own_all0)
      have F124 := (own_CacheK H_cache K1)
      refine own_static Y1 hx (pc' := 52) (W := 0) (cl' := 2) (sl' := 2) (as' := [(.int p1)]) (S' := []) hZ hown (own_w hw 1 rfl) (own_w hw 2 rfl) (own_w hw 3 rfl) (own_w hw 4 rfl) (by decide) (rm1_15 l Z a0 hw [] p1 w_cache h1 n0 (own_sz Y1) F122 F123 F124) (hb hby at_49) rfl (by rw [hml]; rfl) rfl (lenOf pd__I_Ljava_lang_Integer_ rfl) rfl (by decide) (by decide) rfl rfl (by decide) (by decide) own_PV_sz (fun T121 h121 v121 Y121 R121 => ?_)
      obtain ⟨b121_0, rfl, K121, E121, F121⟩ := R121
      show own_Fin p e below _ (T121.setTop (mkF m 52 #[.val (.int p0), .val (.int p1), .val (.int p2), .val (.int p3), .val (.int p4), .val (.int p5), .val (.int (2 : Int32)), .val (.int (1 : Int32)), .val k0, .unset, .unset, .unset, .unset, .unset, .unset, .unset, .unset, .unset, .unset, .unset, .unset] [(.ref b121_0)]))
      exact J52 _ _ _ Y121 K121 (Or.inr ⟨b121_0, _, rfl, E121, F121⟩)
    ·
      refine own_ifNo Y1 hx (pc' := 44) (hb hby at_41) rfl ((if0 _ _).trans (feq qF120).1) ?_
      refine own_aconstNull Y1 hx (pc' := 45) (hb hby at_44) rfl ?_
      refine own_goto Y1 hx (pc' := 52) (hb hby at_45) (by decide) (by decide) ?_
      exact J52 _ _ .null (own_more Y1 (by decide) (by decide)) (own_Kp.refl _ _) (Or.inl rfl)
  by_cases qF125 : (p5 &&& (1 : Int32)) = (0 : Int32)
  ·
    refine own_ifYes Y0 hx (pc' := 31) (hb hby at_24) ((if0 _ _).trans (teq qF125).1) (by decide) (by decide) ?_
    refine own_iloadN Y0 hx (pc' := 32) (hb hby at_31) rfl rfl ?_
    refine own_static Y0 hx (pc' := 35) (W := 0) (cl' := 1) (sl' := 1) (as' := [(.int p0)]) (S' := []) hZ hown (own_w hw 1 rfl) (own_w hw 2 rfl) (own_w hw 3 rfl) (own_w hw 4 rfl) (by decide) (rm1_15 l Z a0 hw [] p0 w_cache h0 n0 (own_sz Y0) S_high S_cache H_cache) (hb hby at_32) rfl (by rw [hml]; rfl) rfl (lenOf pd__I_Ljava_lang_Integer_ rfl) rfl (by decide) (by decide) rfl rfl (by decide) (by decide) own_PV_sz (fun T126 h126 v126 Y126 R126 => ?_)
    obtain ⟨b126_0, rfl, K126, E126, F126⟩ := R126
    show own_Fin p e below _ (T126.setTop (mkF m 35 #[.val (.int p0), .val (.int p1), .val (.int p2), .val (.int p3), .val (.int p4), .val (.int p5), .val (.int (2 : Int32)), .val (.int (1 : Int32)), .unset, .unset, .unset, .unset, .unset, .unset, .unset, .unset, .unset, .unset, .unset, .unset, .unset] [(.ref b126_0)]))
    exact J35 _ _ _ Y126 K126 (Or.inr ⟨b126_0, _, rfl, E126, F126⟩)
  ·
    refine own_ifNo Y0 hx (pc' := 27) (hb hby at_24) rfl ((if0 _ _).trans (feq qF125).1) ?_
    refine own_aconstNull Y0 hx (pc' := 28) (hb hby at_27) rfl ?_
    refine own_goto Y0 hx (pc' := 35) (hb hby at_28) (by decide) (by decide) ?_
    exact J35 _ _ .null (own_more Y0 (by decide) (by decide)) (own_Kp.refl _ _) (Or.inl rfl)
theorem d4_60 : decode prog_25_method_8_code 60 = .ok (.aload_n 0, 1) := by decide +kernel
theorem d4_61 : decode prog_25_method_8_code 61 = .ok (.aload 4, 2) := by decide +kernel
theorem d4_63 : decode prog_25_method_8_code 63 = .ok (.putfield 32, 3) := by decide +kernel
theorem d4_66 : decode prog_25_method_8_code 66 = .ok (.aload_n 0, 1) := by decide +kernel
theorem d4_67 : decode prog_25_method_8_code 67 = .ok (.aload_n 3, 1) := by decide +kernel
theorem d4_68 : decode prog_25_method_8_code 68 = .ok (.putfield 36, 3) := by decide +kernel
theorem d4_71 : decode prog_25_method_8_code 71 = .ok (.goto 12, 3) := by decide +kernel
def P4_28 (Z : State) (a1 : Addr) (v2 : Value) (v3 : Value) (a4 : Addr) (h0 : Heap) (h : Heap) : Prop := own_Kp h0 h [(a1, Jvm.RoadKit.slotOf Z zs0 "key2" zs1), (a1, Jvm.RoadKit.slotOf Z zs0 "value2" zs1)] ∧ Fld Z h a1 zs0 "key2" zs1 (.ref (own_sa a4 v2)) ∧ Fld Z h a1 zs0 "value2" zs1 v3
theorem P4_28_sz {Z : State} {a1 : Addr} {v2 : Value} {v3 : Value} {a4 : Addr} {h0 : Heap} : ∀ v h', (own_R none (P4_28 Z a1 v2 v3 a4 h0)) v h' → Array.size h0 ≤ Array.size h' := by
  intro v h' q
  obtain ⟨-, K, -⟩ := q
  exact K.1
set_option maxRecDepth 65536 in
set_option maxHeartbeats 40000000 in
theorem rm4_28 (l : Launch) (Z : State) (a0 : Array Value) (hw : ∀ d ∈ tables_1, d.before a0 Z = true) (ws : List Jvm.Cond) (a1 : Addr) (v2 : Value) (v3 : Value) (a4 : Addr) (h0 : Heap) (n0 : Nat) (Z0 : n0 ≤ Array.size h0) (P0 : own_Box Z h0 v2) (P1 : own_Box Z h0 v3) (P2 : Sta Z h0 zs0 "NULL_KEY" zs1 (.ref a4)) (P3 : Exa Z h0 a4 zs2) (P4 : Fld Z h0 a1 zs0 "key2" zs1 .null) (P5 : Exa Z h0 a1 zs0) (P6 : n0 ≤ a1) (P7 : Fld Z h0 a1 zs0 "value2" zs1 .null) :
    MetFree l (⟨zs0, "setEntry", zs5⟩ : MethodName) (head1 (Jvm.Cond.code (⟨zs0, "setEntry", zs5⟩ : MethodName) prog_25_method_8_code 5 none :: ws) ({ frames := 1, cells := 0, slots := 0, locals := 12 } : Room)) (fun a U => a = #[(.ref a1), (.int (2 : Int32)), v2, v3] ∧ Z.Warmed39 U.vm ∧ U.heap = h0) (fun _ _ _ _ _ => True) (fun _ U o U' => ∃ v L, o = .returned v ∧ own_QQ n0 (own_R none (P4_28 Z a1 v2 v3 a4 h0)) v U'.heap L ∧ FrameEnd U o U' L ({ frames := 1, cells := 0, slots := 0, locals := 12 } : Room).cells ({ frames := 1, cells := 0, slots := 0, locals := 12 } : Room).slots) := by
  refine MetFree.of_bodySF (plainFor_of_name pn_com_example_napkintree_napkintree_balancing_MultiwayTree_Node) hisR ?_
  intro p e s m args below meth c s₁ Bd hml0 hP hK
  obtain ⟨rfl, hZ, hh⟩ := hP
  have hx := Bd.exec
  have hby := Bd.bytes
  have hml : c.maxLocals = 5 := hml0
  have hown : s.vm.findClass zs0 = some m.cls := findClass_of_methodNamed Bd.named
  have hnm := (name_of_methodNamed Bd.named Bd.method).1
  have hlk : meth.locks = false := BodyLoose.notSynchronized Bd
  have Y0 : own_S p l e ({ frames := 1, cells := 0, slots := 0, locals := 12 } : Room) s m #[(.ref a1), (.int (2 : Int32)), v2, v3] below meth c n0 s₁ h0 0 0 := ⟨[], Stand.of_body Bd, Fr.nil n0, by rw [← hh, Bd.state]; rfl, Z0⟩
  refine (?_ : own_Fin p e below _ _)
  refine own_st (fun t k => castTop (ef_4_RIVV m a1 (2 : Int32) v2 (own_BoxRef P0) v3 (own_BoxRef P1)) k) ?_
  refine own_aloadN Y0 hx (pc' := 1) (hb hby d4_0) rfl rfl (own_BoxRef P0) ?_
  refine own_static Y0 hx (pc' := 4) (W := 0) (cl' := 0) (sl' := 0) (as' := [v2]) (S' := []) hZ hown (own_w hw 25 rfl) (own_w hw 26 rfl) (own_w hw 13 rfl) (own_w hw 27 rfl) (by decide) (rm5_2 l Z a0 hw [] v2 a4 h0 n0 (own_sz Y0) P0 P2 P3) (hb hby d4_1) rfl (by rw [hml]; rfl) rfl (lenOf pd__Ljava_lang_Object__Ljava_lang_Object_ rfl) rfl (by decide) (by decide) rfl rfl (by decide) (by decide) own_Same.sz (own_fixS (S2 := [(.ref (own_sa a4 v2))]) rfl (fun T1 Y1 => ?_))
  refine own_astore Y1 hx (pc' := 6) (Ls' := #[.val (.ref a1), .val (.int (2 : Int32)), .val v2, .val v3, .val (.ref (own_sa a4 v2))]) (hb hby d4_4) rfl rfl rfl ?_
  refine own_iloadN Y1 hx (pc' := 7) (hb hby d4_6) rfl rfl ?_
  refine own_tswIn Y1 hx (pc' := 60) (o := 53) (hb hby d4_7) (by decide) (by decide) (by decide) (by decide) ?_
  refine own_aloadN Y1 hx (pc' := 61) (hb hby d4_60) rfl rfl rfl ?_
  refine own_aload Y1 hx (pc' := 63) (hb hby d4_61) rfl rfl rfl ?_
  refine own_putF Y1 hx (pc' := 66) hZ hown (host := "") (Or.inl (own_w hw 43 rfl)) Via.refl P4 P5 (Or.inl (own_w hw 44 rfl)) (own_w hw 12 rfl) (ty := (.object zs2)) (by decide) rfl rfl P6 (hb hby d4_63) rfl (fun T2 h2 Y2 K2 F2 => ?_)
  refine own_aloadN Y2 hx (pc' := 67) (hb hby d4_66) rfl rfl rfl ?_
  refine own_aloadN Y2 hx (pc' := 68) (hb hby d4_67) rfl rfl (own_BoxRef P1) ?_
  have F3 := (own_F (v := .null) P7 K2 (own_nr (sl_15 hw) own_nin0))
  have F4 := (own_E P5 K2)
  refine own_putF Y2 hx (pc' := 71) hZ hown (host := "") (Or.inl (own_w hw 45 rfl)) Via.refl F3 F4 (Or.inl (own_w hw 46 rfl)) (own_w hw 12 rfl) (ty := (.object zs2)) (by decide) (own_narR rfl (own_BoxRef P1)) (own_fitR rfl (own_BoxRef P1)) P6 (hb hby d4_68) rfl (fun T5 h5 Y5 K5 F5 => ?_)
  refine own_goto Y5 hx (pc' := 83) (hb hby d4_71) (by decide) (by decide) ?_
  have KC6 : own_Kp h0 h5 [(a1, Jvm.RoadKit.slotOf Z zs0 "key2" zs1), (a1, Jvm.RoadKit.slotOf Z zs0 "value2" zs1)] := (((own_Kp.refl h0 [(a1, Jvm.RoadKit.slotOf Z zs0 "key2" zs1), (a1, Jvm.RoadKit.slotOf Z zs0 "value2" zs1)]).trans K2 (own_allS (Or.inl (List.mem_of_getElem? (i := 0) rfl)) own_all0)).trans K5 (own_allS (Or.inl (List.mem_of_getElem? (i := 1) rfl)) own_all0))
  have F7 := (own_F (v := (.ref (own_sa a4 v2))) F2 K5 (own_nr (sl_29 hw) own_nin0))
  exact own_ret0 Y5 hx hlk Bd.returns (hb hby d4_83) ⟨rfl, KC6, F7, F5⟩ (by decide) (by decide)
def P6_29 (Z : State) (a1 : Addr) (a2 : Addr) (v3 : Value) (v4 : Value) (v5 : Value) (v6 : Value) (v7 : Value) (v8 : Value) (h0 : Heap) (h : Heap) : Prop := own_Kp h0 h [(a1, Jvm.RoadKit.slotOf Z zs0 "key0" zs1), (a1, Jvm.RoadKit.slotOf Z zs0 "value0" zs1), (a1, Jvm.RoadKit.slotOf Z zs0 "key1" zs1), (a1, Jvm.RoadKit.slotOf Z zs0 "value1" zs1), (a1, Jvm.RoadKit.slotOf Z zs0 "key2" zs1), (a1, Jvm.RoadKit.slotOf Z zs0 "value2" zs1)] ∧ Fld Z h a1 zs0 "key0" zs1 (.ref (own_sa a2 v3)) ∧ Fld Z h a1 zs0 "value0" zs1 v5 ∧ Fld Z h a1 zs0 "key1" zs1 (.ref (own_sa a2 v7)) ∧ Fld Z h a1 zs0 "value1" zs1 v8 ∧ Fld Z h a1 zs0 "key2" zs1 .null ∧ Fld Z h a1 zs0 "value2" zs1 .null
theorem P6_29_sz {Z : State} {a1 : Addr} {a2 : Addr} {v3 : Value} {v4 : Value} {v5 : Value} {v6 : Value} {v7 : Value} {v8 : Value} {h0 : Heap} : ∀ v h', (own_R none (P6_29 Z a1 a2 v3 v4 v5 v6 v7 v8 h0)) v h' → Array.size h0 ≤ Array.size h' := by
  intro v h' q
  obtain ⟨-, K, -⟩ := q
  exact K.1
set_option maxRecDepth 65536 in
set_option maxHeartbeats 40000000 in
theorem rm6_29 (l : Launch) (Z : State) (a0 : Array Value) (hw : ∀ d ∈ tables_1, d.before a0 Z = true) (ws : List Jvm.Cond) (a1 : Addr) (a2 : Addr) (v3 : Value) (v4 : Value) (v5 : Value) (v6 : Value) (v7 : Value) (v8 : Value) (h0 : Heap) (n0 : Nat) (Z0 : n0 ≤ Array.size h0) (P0 : own_Box Z h0 v3) (P1 : Fld Z h0 a1 zs0 "key1" zs1 (.ref (own_sa a2 v3))) (P2 : own_Box Z h0 v4) (P3 : Fld Z h0 a1 zs0 "key0" zs1 (.ref (own_sa a2 v4))) (P4 : Exa Z h0 a1 zs0) (P5 : n0 ≤ a1) (P6 : own_Box Z h0 v5) (P7 : Fld Z h0 a1 zs0 "value1" zs1 v5) (P8 : own_Box Z h0 v6) (P9 : Fld Z h0 a1 zs0 "value0" zs1 v6) (P10 : own_Box Z h0 v7) (P11 : Fld Z h0 a1 zs0 "key2" zs1 (.ref (own_sa a2 v7))) (P12 : own_Box Z h0 v8) (P13 : Fld Z h0 a1 zs0 "value2" zs1 v8) :
    MetFree l (⟨zs0, "removeEntry", "(I)V"⟩ : MethodName) (head1 (Jvm.Cond.code (⟨zs0, "removeEntry", "(I)V"⟩ : MethodName) prog_25_method_5_code 2 none :: ws) ({ frames := 0, cells := 0, slots := 0, locals := 0 } : Room)) (fun a U => a = #[(.ref a1), (.int (0 : Int32))] ∧ Z.Warmed39 U.vm ∧ U.heap = h0) (fun _ _ _ _ _ => True) (fun _ U o U' => ∃ v L, o = .returned v ∧ own_QQ n0 (own_R none (P6_29 Z a1 a2 v3 v4 v5 v6 v7 v8 h0)) v U'.heap L ∧ FrameEnd U o U' L ({ frames := 0, cells := 0, slots := 0, locals := 0 } : Room).cells ({ frames := 0, cells := 0, slots := 0, locals := 0 } : Room).slots) := by
  refine MetFree.of_bodySF (plainFor_of_name pn_com_example_napkintree_napkintree_balancing_MultiwayTree_Node) hisR ?_
  intro p e s m args below meth c s₁ Bd hml0 hP hK
  obtain ⟨rfl, hZ, hh⟩ := hP
  have hx := Bd.exec
  have hby := Bd.bytes
  have hml : c.maxLocals = 2 := hml0
  have hown : s.vm.findClass zs0 = some m.cls := findClass_of_methodNamed Bd.named
  have hnm := (name_of_methodNamed Bd.named Bd.method).1
  have hlk : meth.locks = false := BodyLoose.notSynchronized Bd
  have Y0 : own_S p l e ({ frames := 0, cells := 0, slots := 0, locals := 0 } : Room) s m #[(.ref a1), (.int (0 : Int32))] below meth c n0 s₁ h0 0 0 := ⟨[], Stand.of_body Bd, Fr.nil n0, by rw [← hh, Bd.state]; rfl, Z0⟩
  refine (?_ : own_Fin p e below _ _)
  refine own_st (fun t k => castTop (ef_6_RI m a1 (0 : Int32)) k) ?_
  refine own_iloadN Y0 hx (pc' := 1) (hb hby d6_0) rfl rfl ?_
  refine own_ifNo Y0 hx (pc' := 4) (hb hby d6_1) rfl (by decide) ?_
  refine own_aloadN Y0 hx (pc' := 5) (hb hby d6_4) rfl rfl rfl ?_
  refine own_aloadN Y0 hx (pc' := 6) (hb hby d6_5) rfl rfl rfl ?_
  refine own_getF Y0 hx (pc' := 9) (v := (.ref (own_sa a2 v3))) hZ hown (host := "") (Or.inl (own_w hw 34 rfl)) Via.refl P1 (hb hby d6_6) rfl (fun T1 Y1 => ?_)
  refine own_putF Y1 hx (pc' := 12) hZ hown (host := "") (Or.inl (own_w hw 30 rfl)) Via.refl P3 P4 (Or.inl (own_w hw 31 rfl)) (own_w hw 12 rfl) (ty := (.object zs2)) (by decide) rfl rfl P5 (hb hby d6_9) rfl (fun T2 h2 Y2 K2 F2 => ?_)
  refine own_aloadN Y2 hx (pc' := 13) (hb hby d6_12) rfl rfl rfl ?_
  refine own_aloadN Y2 hx (pc' := 14) (hb hby d6_13) rfl rfl rfl ?_
  have F3 := (own_F (v := v5) P7 K2 (own_nr (sl_4 hw) own_nin0))
  refine own_getF Y2 hx (pc' := 17) (v := v5) hZ hown (host := "") (Or.inl (own_w hw 36 rfl)) Via.refl F3 (hb hby d6_14) rfl (fun T4 Y4 => ?_)
  have F5 := (own_F (v := v6) P9 K2 (own_nr (sl_0 hw) own_nin0))
  have F6 := (own_E P4 K2)
  refine own_putF Y4 hx (pc' := 20) hZ hown (host := "") (Or.inl (own_w hw 32 rfl)) Via.refl F5 F6 (Or.inl (own_w hw 33 rfl)) (own_w hw 12 rfl) (ty := (.object zs2)) (by decide) (own_narR rfl (own_BoxRef P6)) (own_fitR rfl (own_BoxRef P6)) P5 (hb hby d6_17) rfl (fun T7 h7 Y7 K7 F7 => ?_)
  refine own_iloadN Y7 hx (pc' := 21) (hb hby d6_20) rfl rfl ?_
  refine own_iconst Y7 hx (pc' := 22) (x := (1 : Int32)) (hb hby d6_21) rfl (by decide) ?_
  refine own_icmpNo Y7 hx (pc' := 25) (hb hby d6_22) rfl (by decide) ?_
  refine own_aloadN Y7 hx (pc' := 26) (hb hby d6_25) rfl rfl rfl ?_
  refine own_aloadN Y7 hx (pc' := 27) (hb hby d6_26) rfl rfl rfl ?_
  have F8 := (own_F (v := (.ref (own_sa a2 v7))) (own_F (v := (.ref (own_sa a2 v7))) P11 K2 (own_nr (sl_6 hw) own_nin0)) K7 (own_nr (sl_7 hw) own_nin0))
  refine own_getF Y7 hx (pc' := 30) (v := (.ref (own_sa a2 v7))) hZ hown (host := "") (Or.inl (own_w hw 43 rfl)) Via.refl F8 (hb hby d6_27) rfl (fun T9 Y9 => ?_)
  have F10 := (own_F (v := (.ref (own_sa a2 v3))) (own_F (v := (.ref (own_sa a2 v3))) P1 K2 (own_nr (sl_2 hw) own_nin0)) K7 (own_nr (sl_3 hw) own_nin0))
  have F11 := (own_E F6 K7)
  refine own_putF Y9 hx (pc' := 33) hZ hown (host := "") (Or.inl (own_w hw 34 rfl)) Via.refl F10 F11 (Or.inl (own_w hw 35 rfl)) (own_w hw 12 rfl) (ty := (.object zs2)) (by decide) rfl rfl P5 (hb hby d6_30) rfl (fun T12 h12 Y12 K12 F12 => ?_)
  refine own_aloadN Y12 hx (pc' := 34) (hb hby d6_33) rfl rfl rfl ?_
  refine own_aloadN Y12 hx (pc' := 35) (hb hby d6_34) rfl rfl rfl ?_
  have F13 := (own_F (v := v8) (own_F (v := v8) (own_F (v := v8) P13 K2 (own_nr (sl_8 hw) own_nin0)) K7 (own_nr (sl_9 hw) own_nin0)) K12 (own_nr (sl_10 hw) own_nin0))
  refine own_getF Y12 hx (pc' := 38) (v := v8) hZ hown (host := "") (Or.inl (own_w hw 45 rfl)) Via.refl F13 (hb hby d6_35) rfl (fun T14 Y14 => ?_)
  have F15 := (own_F (v := v5) (own_F (v := v5) F3 K7 (own_nr (sl_5 hw) own_nin0)) K12 (own_nr (sl_11 hw) own_nin0))
  have F16 := (own_E F11 K12)
  refine own_putF Y14 hx (pc' := 41) hZ hown (host := "") (Or.inl (own_w hw 36 rfl)) Via.refl F15 F16 (Or.inl (own_w hw 37 rfl)) (own_w hw 12 rfl) (ty := (.object zs2)) (by decide) (own_narR rfl (own_BoxRef P12)) (own_fitR rfl (own_BoxRef P12)) P5 (hb hby d6_38) rfl (fun T17 h17 Y17 K17 F17 => ?_)
  refine own_aloadN Y17 hx (pc' := 42) (hb hby d6_41) rfl rfl rfl ?_
  refine own_aconstNull Y17 hx (pc' := 43) (hb hby d6_42) rfl ?_
  have F18 := (own_F (v := (.ref (own_sa a2 v7))) (own_F (v := (.ref (own_sa a2 v7))) F8 K12 (own_nr (sl_12 hw) own_nin0)) K17 (own_nr (sl_13 hw) own_nin0))
  have F19 := (own_E F16 K17)
  refine own_putF Y17 hx (pc' := 46) hZ hown (host := "") (Or.inl (own_w hw 43 rfl)) Via.refl F18 F19 (Or.inl (own_w hw 44 rfl)) (own_w hw 12 rfl) (ty := (.object zs2)) (by decide) rfl rfl P5 (hb hby d6_43) rfl (fun T20 h20 Y20 K20 F20 => ?_)
  refine own_aloadN Y20 hx (pc' := 47) (hb hby d6_46) rfl rfl rfl ?_
  refine own_aconstNull Y20 hx (pc' := 48) (hb hby d6_47) rfl ?_
  have F21 := (own_F (v := v8) (own_F (v := v8) F13 K17 (own_nr (sl_14 hw) own_nin0)) K20 (own_nr (sl_15 hw) own_nin0))
  have F22 := (own_E F19 K20)
  refine own_putF Y20 hx (pc' := 51) hZ hown (host := "") (Or.inl (own_w hw 45 rfl)) Via.refl F21 F22 (Or.inl (own_w hw 46 rfl)) (own_w hw 12 rfl) (ty := (.object zs2)) (by decide) rfl rfl P5 (hb hby d6_48) rfl (fun T23 h23 Y23 K23 F23 => ?_)
  have KC24 : own_Kp h0 h23 [(a1, Jvm.RoadKit.slotOf Z zs0 "key0" zs1), (a1, Jvm.RoadKit.slotOf Z zs0 "value0" zs1), (a1, Jvm.RoadKit.slotOf Z zs0 "key1" zs1), (a1, Jvm.RoadKit.slotOf Z zs0 "value1" zs1), (a1, Jvm.RoadKit.slotOf Z zs0 "key2" zs1), (a1, Jvm.RoadKit.slotOf Z zs0 "value2" zs1)] := (((((((own_Kp.refl h0 [(a1, Jvm.RoadKit.slotOf Z zs0 "key0" zs1), (a1, Jvm.RoadKit.slotOf Z zs0 "value0" zs1), (a1, Jvm.RoadKit.slotOf Z zs0 "key1" zs1), (a1, Jvm.RoadKit.slotOf Z zs0 "value1" zs1), (a1, Jvm.RoadKit.slotOf Z zs0 "key2" zs1), (a1, Jvm.RoadKit.slotOf Z zs0 "value2" zs1)]).trans K2 (own_allS (Or.inl (List.mem_of_getElem? (i := 0) rfl)) own_all0)).trans K7 (own_allS (Or.inl (List.mem_of_getElem? (i := 1) rfl)) own_all0)).trans K12 (own_allS (Or.inl (List.mem_of_getElem? (i := 2) rfl)) own_all0)).trans K17 (own_allS (Or.inl (List.mem_of_getElem? (i := 3) rfl)) own_all0)).trans K20 (own_allS (Or.inl (List.mem_of_getElem? (i := 4) rfl)) own_all0)).trans K23 (own_allS (Or.inl (List.mem_of_getElem? (i := 5) rfl)) own_all0))
  have F25 := (own_F (v := (.ref (own_sa a2 v3))) (own_F (v := (.ref (own_sa a2 v3))) (own_F (v := (.ref (own_sa a2 v3))) (own_F (v := (.ref (own_sa a2 v3))) (own_F (v := (.ref (own_sa a2 v3))) F2 K7 (own_nr (sl_1 hw) own_nin0)) K12 (own_nr (sl_16 hw) own_nin0)) K17 (own_nr (sl_17 hw) own_nin0)) K20 (own_nr (sl_18 hw) own_nin0)) K23 (own_nr (sl_19 hw) own_nin0))
  have F26 := (own_F (v := v5) (own_F (v := v5) (own_F (v := v5) (own_F (v := v5) F7 K12 (own_nr (sl_20 hw) own_nin0)) K17 (own_nr (sl_21 hw) own_nin0)) K20 (own_nr (sl_22 hw) own_nin0)) K23 (own_nr (sl_23 hw) own_nin0))
  have F27 := (own_F (v := (.ref (own_sa a2 v7))) (own_F (v := (.ref (own_sa a2 v7))) (own_F (v := (.ref (own_sa a2 v7))) F12 K17 (own_nr (sl_24 hw) own_nin0)) K20 (own_nr (sl_25 hw) own_nin0)) K23 (own_nr (sl_26 hw) own_nin0))
  have F28 := (own_F (v := v8) (own_F (v := v8) F17 K20 (own_nr (sl_27 hw) own_nin0)) K23 (own_nr (sl_28 hw) own_nin0))
  have F29 := (own_F (v := .null) F20 K23 (own_nr (sl_29 hw) own_nin0))
  exact own_ret0 Y23 hx hlk Bd.returns (hb hby d6_51) ⟨rfl, KC24, F25, F26, F27, F28, F29, F23⟩ (by decide) (by decide)
theorem d7_22 : decode prog_25_method_16_code 22 = .ok (.aload_n 0, 1) := by decide +kernel
theorem d7_23 : decode prog_25_method_16_code 23 = .ok (.getfield 32, 3) := by decide +kernel
theorem d7_26 : decode prog_25_method_16_code 26 = .ok (.ifnonnull 7, 3) := by decide +kernel
theorem d7_29 : decode prog_25_method_16_code 29 = .ok (.iconst 2, 1) := by decide +kernel
theorem d7_30 : decode prog_25_method_16_code 30 = .ok (.goto 4, 3) := by decide +kernel
set_option maxRecDepth 65536 in
set_option maxHeartbeats 40000000 in
theorem rm7_30 (l : Launch) (Z : State) (a0 : Array Value) (hw : ∀ d ∈ tables_1, d.before a0 Z = true) (ws : List Jvm.Cond) (a1 : Addr) (a2 : Addr) (v3 : Value) (v4 : Value) (h0 : Heap) (n0 : Nat) (Z0 : n0 ≤ Array.size h0) (P0 : own_Box Z h0 v3) (P1 : Fld Z h0 a1 zs0 "key0" zs1 (.ref (own_sa a2 v3))) (P2 : own_Box Z h0 v4) (P3 : Fld Z h0 a1 zs0 "key1" zs1 (.ref (own_sa a2 v4))) (P4 : Fld Z h0 a1 zs0 "key2" zs1 .null) :
    MetFree l (⟨zs0, "keyCount", "()I"⟩ : MethodName) (head1 (Jvm.Cond.code (⟨zs0, "keyCount", "()I"⟩ : MethodName) prog_25_method_16_code 1 (some .int) :: ws) ({ frames := 0, cells := 0, slots := 0, locals := 0 } : Room)) (fun a U => a = #[(.ref a1)] ∧ Z.Warmed39 U.vm ∧ U.heap = h0) (fun _ _ _ _ _ => True) (fun _ U o U' => ∃ v L, o = .returned v ∧ own_QQ n0 (own_Same (some (.int (2 : Int32))) h0) v U'.heap L ∧ FrameEnd U o U' L ({ frames := 0, cells := 0, slots := 0, locals := 0 } : Room).cells ({ frames := 0, cells := 0, slots := 0, locals := 0 } : Room).slots) := by
  refine MetFree.of_bodySF (plainFor_of_name pn_com_example_napkintree_napkintree_balancing_MultiwayTree_Node) hisR ?_
  intro p e s m args below meth c s₁ Bd hml0 hP hK
  obtain ⟨rfl, hZ, hh⟩ := hP
  have hx := Bd.exec
  have hby := Bd.bytes
  have hml : c.maxLocals = 1 := hml0
  have hown : s.vm.findClass zs0 = some m.cls := findClass_of_methodNamed Bd.named
  have hnm := (name_of_methodNamed Bd.named Bd.method).1
  have hlk : meth.locks = false := BodyLoose.notSynchronized Bd
  have Y0 : own_S p l e ({ frames := 0, cells := 0, slots := 0, locals := 0 } : Room) s m #[(.ref a1)] below meth c n0 s₁ h0 0 0 := ⟨[], Stand.of_body Bd, Fr.nil n0, by rw [← hh, Bd.state]; rfl, Z0⟩
  refine (?_ : own_Fin p e below _ _)
  refine own_st (fun t k => castTop (ef_7_R m a1) k) ?_
  refine own_aloadN Y0 hx (pc' := 1) (hb hby d7_0) rfl rfl rfl ?_
  refine own_getF Y0 hx (pc' := 4) (v := (.ref (own_sa a2 v3))) hZ hown (host := "") (Or.inl (own_w hw 30 rfl)) Via.refl P1 (hb hby d7_1) rfl (fun T1 Y1 => ?_)
  refine own_ifnonnullYes Y1 hx (pc' := 11) (hb hby d7_4) (by decide) (by decide) ?_
  refine own_aloadN Y1 hx (pc' := 12) (hb hby d7_11) rfl rfl rfl ?_
  refine own_getF Y1 hx (pc' := 15) (v := (.ref (own_sa a2 v4))) hZ hown (host := "") (Or.inl (own_w hw 34 rfl)) Via.refl P3 (hb hby d7_12) rfl (fun T2 Y2 => ?_)
  refine own_ifnonnullYes Y2 hx (pc' := 22) (hb hby d7_15) (by decide) (by decide) ?_
  refine own_aloadN Y2 hx (pc' := 23) (hb hby d7_22) rfl rfl rfl ?_
  refine own_getF Y2 hx (pc' := 26) (v := .null) hZ hown (host := "") (Or.inl (own_w hw 43 rfl)) Via.refl P4 (hb hby d7_23) rfl (fun T3 Y3 => ?_)
  refine own_ifnonnullNo Y3 hx (pc' := 29) (hb hby d7_26) rfl ?_
  refine own_iconst Y3 hx (pc' := 30) (x := (2 : Int32)) (hb hby d7_29) rfl (by decide) ?_
  refine own_goto Y3 hx (pc' := 34) (hb hby d7_30) (by decide) (by decide) ?_
  exact own_retN Y3 hx hlk Bd.returns rfl (by simp) (hb hby d7_34) ⟨rfl, rfl⟩ (by decide) (by decide)
set_option maxRecDepth 65536 in
set_option maxHeartbeats 40000000 in
theorem rm8_31 (l : Launch) (Z : State) (a0 : Array Value) (hw : ∀ d ∈ tables_1, d.before a0 Z = true) (ws : List Jvm.Cond) (a1 : Addr) (a2 : Addr) (v3 : Value) (h0 : Heap) (n0 : Nat) (Z0 : n0 ≤ Array.size h0) (P0 : own_Box Z h0 v3) (P1 : Fld Z h0 a1 zs0 "key0" zs1 (.ref (own_sa a2 v3))) (P2 : Exa Z h0 a2 zs2) (P3 : Sta Z h0 zs0 "NULL_KEY" zs1 (.ref a2)) :
    MetFree l (⟨zs0, "key", zs6⟩ : MethodName) (head1 (Jvm.Cond.code (⟨zs0, "key", zs6⟩ : MethodName) prog_25_method_17_code 3 (some (.object zs2)) :: ws) ({ frames := 1, cells := 0, slots := 0, locals := 12 } : Room)) (fun a U => a = #[(.ref a1), (.int (0 : Int32))] ∧ Z.Warmed39 U.vm ∧ U.heap = h0) (fun _ _ _ _ _ => True) (fun _ U o U' => ∃ v L, o = .returned v ∧ own_QQ n0 (own_Same (some v3) h0) v U'.heap L ∧ FrameEnd U o U' L ({ frames := 1, cells := 0, slots := 0, locals := 12 } : Room).cells ({ frames := 1, cells := 0, slots := 0, locals := 12 } : Room).slots) := by
  refine MetFree.of_bodySF (plainFor_of_name pn_com_example_napkintree_napkintree_balancing_MultiwayTree_Node) hisR ?_
  intro p e s m args below meth c s₁ Bd hml0 hP hK
  obtain ⟨rfl, hZ, hh⟩ := hP
  have hx := Bd.exec
  have hby := Bd.bytes
  have hml : c.maxLocals = 3 := hml0
  have hown : s.vm.findClass zs0 = some m.cls := findClass_of_methodNamed Bd.named
  have hnm := (name_of_methodNamed Bd.named Bd.method).1
  have hlk : meth.locks = false := BodyLoose.notSynchronized Bd
  have Y0 : own_S p l e ({ frames := 1, cells := 0, slots := 0, locals := 12 } : Room) s m #[(.ref a1), (.int (0 : Int32))] below meth c n0 s₁ h0 0 0 := ⟨[], Stand.of_body Bd, Fr.nil n0, by rw [← hh, Bd.state]; rfl, Z0⟩
  refine (?_ : own_Fin p e below _ _)
  refine own_st (fun t k => castTop (ef_8_RI m a1 (0 : Int32)) k) ?_
  refine own_iloadN Y0 hx (pc' := 1) (hb hby d8_0) rfl rfl ?_
  refine own_tswIn Y0 hx (pc' := 28) (o := 27) (hb hby d8_1) (by decide) (by decide) (by decide) (by decide) ?_
  refine own_aloadN Y0 hx (pc' := 29) (hb hby d8_28) rfl rfl rfl ?_
  refine own_getF Y0 hx (pc' := 32) (v := (.ref (own_sa a2 v3))) hZ hown (host := "") (Or.inl (own_w hw 30 rfl)) Via.refl P1 (hb hby d8_29) rfl (fun T1 Y1 => ?_)
  refine own_goto Y1 hx (pc' := 58) (hb hby d8_32) (by decide) (by decide) ?_
  refine own_astoreN Y1 hx (pc' := 59) (Ls' := #[.val (.ref a1), .val (.int (0 : Int32)), .val (.ref (own_sa a2 v3))]) (hb hby d8_58) rfl rfl rfl ?_
  refine own_aloadN Y1 hx (pc' := 60) (hb hby d8_59) rfl rfl rfl ?_
  refine own_static Y1 hx (pc' := 63) (W := 0) (cl' := 0) (sl' := 0) (as' := [(.ref (own_sa a2 v3))]) (S' := []) hZ hown (own_w hw 57 rfl) (own_w hw 58 rfl) (own_w hw 13 rfl) (own_w hw 59 rfl) (by decide) (rm9_19 l Z a0 hw [] a2 v3 h0 n0 (own_sz Y1) P0 P2 P3) (hb hby d8_60) rfl (by rw [hml]; rfl) rfl (lenOf pd__Ljava_lang_Object__Ljava_lang_Object_ rfl) rfl (by decide) (by decide) rfl rfl (by decide) (by decide) own_Same.sz (own_fixS (S2 := [v3]) rfl (fun T2 Y2 => ?_))
  exact own_retA Y2 hx hlk Bd.returns (own_narR rfl (own_BoxRef P0)) rfl (own_BoxRef P0) (hb hby d8_63) ⟨rfl, rfl⟩ (by decide) (by decide)
set_option maxRecDepth 65536 in
set_option maxHeartbeats 40000000 in
theorem rm8_32 (l : Launch) (Z : State) (a0 : Array Value) (hw : ∀ d ∈ tables_1, d.before a0 Z = true) (ws : List Jvm.Cond) (a1 : Addr) (a2 : Addr) (v3 : Value) (h0 : Heap) (n0 : Nat) (Z0 : n0 ≤ Array.size h0) (P0 : own_Box Z h0 v3) (P1 : Fld Z h0 a1 zs0 "key1" zs1 (.ref (own_sa a2 v3))) (P2 : Exa Z h0 a2 zs2) (P3 : Sta Z h0 zs0 "NULL_KEY" zs1 (.ref a2)) :
    MetFree l (⟨zs0, "key", zs6⟩ : MethodName) (head1 (Jvm.Cond.code (⟨zs0, "key", zs6⟩ : MethodName) prog_25_method_17_code 3 (some (.object zs2)) :: ws) ({ frames := 1, cells := 0, slots := 0, locals := 12 } : Room)) (fun a U => a = #[(.ref a1), (.int (1 : Int32))] ∧ Z.Warmed39 U.vm ∧ U.heap = h0) (fun _ _ _ _ _ => True) (fun _ U o U' => ∃ v L, o = .returned v ∧ own_QQ n0 (own_Same (some v3) h0) v U'.heap L ∧ FrameEnd U o U' L ({ frames := 1, cells := 0, slots := 0, locals := 12 } : Room).cells ({ frames := 1, cells := 0, slots := 0, locals := 12 } : Room).slots) := by
  refine MetFree.of_bodySF (plainFor_of_name pn_com_example_napkintree_napkintree_balancing_MultiwayTree_Node) hisR ?_
  intro p e s m args below meth c s₁ Bd hml0 hP hK
  obtain ⟨rfl, hZ, hh⟩ := hP
  have hx := Bd.exec
  have hby := Bd.bytes
  have hml : c.maxLocals = 3 := hml0
  have hown : s.vm.findClass zs0 = some m.cls := findClass_of_methodNamed Bd.named
  have hnm := (name_of_methodNamed Bd.named Bd.method).1
  have hlk : meth.locks = false := BodyLoose.notSynchronized Bd
  have Y0 : own_S p l e ({ frames := 1, cells := 0, slots := 0, locals := 12 } : Room) s m #[(.ref a1), (.int (1 : Int32))] below meth c n0 s₁ h0 0 0 := ⟨[], Stand.of_body Bd, Fr.nil n0, by rw [← hh, Bd.state]; rfl, Z0⟩
  refine (?_ : own_Fin p e below _ _)
  refine own_st (fun t k => castTop (ef_8_RI m a1 (1 : Int32)) k) ?_
  refine own_iloadN Y0 hx (pc' := 1) (hb hby d8_0) rfl rfl ?_
  refine own_tswIn Y0 hx (pc' := 35) (o := 34) (hb hby d8_1) (by decide) (by decide) (by decide) (by decide) ?_
  refine own_aloadN Y0 hx (pc' := 36) (hb hby d8_35) rfl rfl rfl ?_
  refine own_getF Y0 hx (pc' := 39) (v := (.ref (own_sa a2 v3))) hZ hown (host := "") (Or.inl (own_w hw 34 rfl)) Via.refl P1 (hb hby d8_36) rfl (fun T1 Y1 => ?_)
  refine own_goto Y1 hx (pc' := 58) (hb hby d8_39) (by decide) (by decide) ?_
  refine own_astoreN Y1 hx (pc' := 59) (Ls' := #[.val (.ref a1), .val (.int (1 : Int32)), .val (.ref (own_sa a2 v3))]) (hb hby d8_58) rfl rfl rfl ?_
  refine own_aloadN Y1 hx (pc' := 60) (hb hby d8_59) rfl rfl rfl ?_
  refine own_static Y1 hx (pc' := 63) (W := 0) (cl' := 0) (sl' := 0) (as' := [(.ref (own_sa a2 v3))]) (S' := []) hZ hown (own_w hw 57 rfl) (own_w hw 58 rfl) (own_w hw 13 rfl) (own_w hw 59 rfl) (by decide) (rm9_19 l Z a0 hw [] a2 v3 h0 n0 (own_sz Y1) P0 P2 P3) (hb hby d8_60) rfl (by rw [hml]; rfl) rfl (lenOf pd__Ljava_lang_Object__Ljava_lang_Object_ rfl) rfl (by decide) (by decide) rfl rfl (by decide) (by decide) own_Same.sz (own_fixS (S2 := [v3]) rfl (fun T2 Y2 => ?_))
  exact own_retA Y2 hx hlk Bd.returns (own_narR rfl (own_BoxRef P0)) rfl (own_BoxRef P0) (hb hby d8_63) ⟨rfl, rfl⟩ (by decide) (by decide)
set_option maxRecDepth 65536 in
set_option maxHeartbeats 40000000 in
theorem rm11_33 (l : Launch) (Z : State) (a0 : Array Value) (hw : ∀ d ∈ tables_1, d.before a0 Z = true) (ws : List Jvm.Cond) (a1 : Addr) (v2 : Value) (h0 : Heap) (n0 : Nat) (Z0 : n0 ≤ Array.size h0) (P0 : own_Box Z h0 v2) (P1 : Fld Z h0 a1 zs0 "value0" zs1 v2) :
    MetFree l (⟨zs0, "value", zs6⟩ : MethodName) (head1 (Jvm.Cond.code (⟨zs0, "value", zs6⟩ : MethodName) prog_25_method_20_code 3 (some (.object zs2)) :: ws) ({ frames := 0, cells := 0, slots := 0, locals := 0 } : Room)) (fun a U => a = #[(.ref a1), (.int (0 : Int32))] ∧ Z.Warmed39 U.vm ∧ U.heap = h0) (fun _ _ _ _ _ => True) (fun _ U o U' => ∃ v L, o = .returned v ∧ own_QQ n0 (own_Same (some v2) h0) v U'.heap L ∧ FrameEnd U o U' L ({ frames := 0, cells := 0, slots := 0, locals := 0 } : Room).cells ({ frames := 0, cells := 0, slots := 0, locals := 0 } : Room).slots) := by
  refine MetFree.of_bodySF (plainFor_of_name pn_com_example_napkintree_napkintree_balancing_MultiwayTree_Node) hisR ?_
  intro p e s m args below meth c s₁ Bd hml0 hP hK
  obtain ⟨rfl, hZ, hh⟩ := hP
  have hx := Bd.exec
  have hby := Bd.bytes
  have hml : c.maxLocals = 3 := hml0
  have hown : s.vm.findClass zs0 = some m.cls := findClass_of_methodNamed Bd.named
  have hnm := (name_of_methodNamed Bd.named Bd.method).1
  have hlk : meth.locks = false := BodyLoose.notSynchronized Bd
  have Y0 : own_S p l e ({ frames := 0, cells := 0, slots := 0, locals := 0 } : Room) s m #[(.ref a1), (.int (0 : Int32))] below meth c n0 s₁ h0 0 0 := ⟨[], Stand.of_body Bd, Fr.nil n0, by rw [← hh, Bd.state]; rfl, Z0⟩
  refine (?_ : own_Fin p e below _ _)
  refine own_st (fun t k => castTop (ef_11_RI m a1 (0 : Int32)) k) ?_
  refine own_iloadN Y0 hx (pc' := 1) (hb hby d11_0) rfl rfl ?_
  refine own_tswIn Y0 hx (pc' := 28) (o := 27) (hb hby d11_1) (by decide) (by decide) (by decide) (by decide) ?_
  refine own_aloadN Y0 hx (pc' := 29) (hb hby d11_28) rfl rfl rfl ?_
  refine own_getF Y0 hx (pc' := 32) (v := v2) hZ hown (host := "") (Or.inl (own_w hw 32 rfl)) Via.refl P1 (hb hby d11_29) rfl (fun T1 Y1 => ?_)
  refine own_goto Y1 hx (pc' := 58) (hb hby d11_32) (by decide) (by decide) ?_
  refine own_astoreN Y1 hx (pc' := 59) (Ls' := #[.val (.ref a1), .val (.int (0 : Int32)), .val v2]) (hb hby d11_58) rfl (own_BoxRef P0) (own_stV (own_BoxRef P0) rfl (Or.inl rfl) rfl) ?_
  refine own_aloadN Y1 hx (pc' := 60) (hb hby d11_59) rfl rfl (own_BoxRef P0) ?_
  exact own_retA Y1 hx hlk Bd.returns (own_narR rfl (own_BoxRef P0)) rfl (own_BoxRef P0) (hb hby d11_60) ⟨rfl, rfl⟩ (by decide) (by decide)
set_option maxRecDepth 65536 in
set_option maxHeartbeats 40000000 in
theorem rm11_34 (l : Launch) (Z : State) (a0 : Array Value) (hw : ∀ d ∈ tables_1, d.before a0 Z = true) (ws : List Jvm.Cond) (a1 : Addr) (v2 : Value) (h0 : Heap) (n0 : Nat) (Z0 : n0 ≤ Array.size h0) (P0 : own_Box Z h0 v2) (P1 : Fld Z h0 a1 zs0 "value1" zs1 v2) :
    MetFree l (⟨zs0, "value", zs6⟩ : MethodName) (head1 (Jvm.Cond.code (⟨zs0, "value", zs6⟩ : MethodName) prog_25_method_20_code 3 (some (.object zs2)) :: ws) ({ frames := 0, cells := 0, slots := 0, locals := 0 } : Room)) (fun a U => a = #[(.ref a1), (.int (1 : Int32))] ∧ Z.Warmed39 U.vm ∧ U.heap = h0) (fun _ _ _ _ _ => True) (fun _ U o U' => ∃ v L, o = .returned v ∧ own_QQ n0 (own_Same (some v2) h0) v U'.heap L ∧ FrameEnd U o U' L ({ frames := 0, cells := 0, slots := 0, locals := 0 } : Room).cells ({ frames := 0, cells := 0, slots := 0, locals := 0 } : Room).slots) := by
  refine MetFree.of_bodySF (plainFor_of_name pn_com_example_napkintree_napkintree_balancing_MultiwayTree_Node) hisR ?_
  intro p e s m args below meth c s₁ Bd hml0 hP hK
  obtain ⟨rfl, hZ, hh⟩ := hP
  have hx := Bd.exec
  have hby := Bd.bytes
  have hml : c.maxLocals = 3 := hml0
  have hown : s.vm.findClass zs0 = some m.cls := findClass_of_methodNamed Bd.named
  have hnm := (name_of_methodNamed Bd.named Bd.method).1
  have hlk : meth.locks = false := BodyLoose.notSynchronized Bd
  have Y0 : own_S p l e ({ frames := 0, cells := 0, slots := 0, locals := 0 } : Room) s m #[(.ref a1), (.int (1 : Int32))] below meth c n0 s₁ h0 0 0 := ⟨[], Stand.of_body Bd, Fr.nil n0, by rw [← hh, Bd.state]; rfl, Z0⟩
  refine (?_ : own_Fin p e below _ _)
  refine own_st (fun t k => castTop (ef_11_RI m a1 (1 : Int32)) k) ?_
  refine own_iloadN Y0 hx (pc' := 1) (hb hby d11_0) rfl rfl ?_
  refine own_tswIn Y0 hx (pc' := 35) (o := 34) (hb hby d11_1) (by decide) (by decide) (by decide) (by decide) ?_
  refine own_aloadN Y0 hx (pc' := 36) (hb hby d11_35) rfl rfl rfl ?_
  refine own_getF Y0 hx (pc' := 39) (v := v2) hZ hown (host := "") (Or.inl (own_w hw 36 rfl)) Via.refl P1 (hb hby d11_36) rfl (fun T1 Y1 => ?_)
  refine own_goto Y1 hx (pc' := 58) (hb hby d11_39) (by decide) (by decide) ?_
  refine own_astoreN Y1 hx (pc' := 59) (Ls' := #[.val (.ref a1), .val (.int (1 : Int32)), .val v2]) (hb hby d11_58) rfl (own_BoxRef P0) (own_stV (own_BoxRef P0) rfl (Or.inl rfl) rfl) ?_
  refine own_aloadN Y1 hx (pc' := 60) (hb hby d11_59) rfl rfl (own_BoxRef P0) ?_
  exact own_retA Y1 hx hlk Bd.returns (own_narR rfl (own_BoxRef P0)) rfl (own_BoxRef P0) (hb hby d11_60) ⟨rfl, rfl⟩ (by decide) (by decide)
set_option maxRecDepth 65536 in
set_option maxHeartbeats 40000000 in
theorem rm0_c30 (l : Launch) (Z : State) (a0 : Array Value) (hw : ∀ d ∈ tables_1, d.before a0 Z = true) (ws : List Jvm.Cond) (w_NULL_KEY : Addr) (w_cache : Addr) (p0 : Int32) (p1 : Int32) (p2 : Int32) (p3 : Int32) (p4 : Int32) (p5 : Int32) (h0 : Heap) (n0 : Nat) (Z0 : n0 ≤ Array.size h0) (PN : own_Pins Z h0 w_NULL_KEY w_cache) (q0 : ((p3 &&& (2147483647 : Int32)) % (3 : Int32)) = (2 : Int32)) (q1 : ((p4 &&& (2147483647 : Int32)) % (3 : Int32)) = (0 : Int32)) :
    MetFree l x (head1 (Jvm.Cond.code x code maxLocals ret :: ws) room_1) (fun a U => a = #[(.int p0), (.int p1), (.int p2), (.int p3), (.int p4), (.int p5)] ∧ Z.Warmed39 U.vm ∧ U.heap = h0) (fun _ _ _ _ _ => True) (fun _ U o U' => ∃ v L, o = .returned v ∧ own_QQ n0 (own_R (some (.int (1 : Int32))) (fun _ => True)) v U'.heap L ∧ FrameEnd U o U' L room_1.cells room_1.slots) := by
  refine MetFree.of_bodySF (plainFor_of_name pn_com_example_napkintree_napkintree_balancing_NodeRemoveEntryPinLaw) hisR ?_
  intro p e s m args below meth c s₁ Bd hml0 hP hK
  obtain ⟨rfl, hZ, hh⟩ := hP
  have hx := Bd.exec
  have hby := Bd.bytes
  have hml : c.maxLocals = 21 := hml0
  have hown : s.vm.findClass zs7 = some m.cls := findClass_of_methodNamed Bd.named
  have hnm := (name_of_methodNamed Bd.named Bd.method).1
  have hlk : meth.locks = false := BodyLoose.notSynchronized Bd
  have Y0 : own_S p l e room_1 s m #[(.int p0), (.int p1), (.int p2), (.int p3), (.int p4), (.int p5)] below meth c n0 s₁ h0 0 0 := ⟨[], Stand.of_body Bd, Fr.nil n0, by rw [← hh, Bd.state]; rfl, Z0⟩
  obtain ⟨S_NULL_KEY, E_NULL_KEY, S_high, S_cache, H_cache⟩ := PN
  refine (?_ : own_Fin p e below _ _)
  refine own_st (fun t k => castTop (ef_0_IIIIII m p0 p1 p2 p3 p4 p5) k) ?_
  show own_Fin p e below (own_KL s n0) _
  refine own_iloadN Y0 hx (pc' := 1) (hb hby at_0) rfl rfl ?_
  refine own_ldcI Y0 hx (pc' := 3) hZ hown (own_w hw 0 rfl) (hb hby at_1) rfl ?_
  refine own_iand Y0 hx (pc' := 4) (hb hby at_3) rfl (z := (p3 &&& (2147483647 : Int32))) rfl ?_
  refine own_iconst Y0 hx (pc' := 5) (x := (3 : Int32)) (hb hby at_4) rfl (by decide) ?_
  refine own_irem Y0 hx (pc' := 6) (hb hby at_5) rfl (by decide) (z := (2 : Int32)) q0 ?_
  refine own_iconst Y0 hx (pc' := 7) (x := (1 : Int32)) (hb hby at_6) rfl (by decide) ?_
  refine own_iadd Y0 hx (pc' := 8) (hb hby at_7) rfl (z := (3 : Int32)) (by decide) ?_
  refine own_istore Y0 hx (pc' := 10) (Ls' := #[.val (.int p0), .val (.int p1), .val (.int p2), .val (.int p3), .val (.int p4), .val (.int p5), .val (.int (3 : Int32)), .unset, .unset, .unset, .unset, .unset, .unset, .unset, .unset, .unset, .unset, .unset, .unset, .unset, .unset]) (hb hby at_8) rfl rfl ?_
  refine own_iload Y0 hx (pc' := 12) (hb hby at_10) rfl rfl ?_
  refine own_ldcI Y0 hx (pc' := 14) hZ hown (own_w hw 0 rfl) (hb hby at_12) rfl ?_
  refine own_iand Y0 hx (pc' := 15) (hb hby at_14) rfl (z := (p4 &&& (2147483647 : Int32))) rfl ?_
  refine own_iload Y0 hx (pc' := 17) (hb hby at_15) rfl rfl ?_
  refine own_irem Y0 hx (pc' := 18) (hb hby at_17) rfl (by decide) (z := (0 : Int32)) q1 ?_
  refine own_istore Y0 hx (pc' := 20) (Ls' := #[.val (.int p0), .val (.int p1), .val (.int p2), .val (.int p3), .val (.int p4), .val (.int p5), .val (.int (3 : Int32)), .val (.int (0 : Int32)), .unset, .unset, .unset, .unset, .unset, .unset, .unset, .unset, .unset, .unset, .unset, .unset, .unset]) (hb hby at_18) rfl rfl ?_
  refine own_iload Y0 hx (pc' := 22) (hb hby at_20) rfl rfl ?_
  refine own_iconst Y0 hx (pc' := 23) (x := (1 : Int32)) (hb hby at_22) rfl (by decide) ?_
  refine own_iand Y0 hx (pc' := 24) (hb hby at_23) rfl (z := (p5 &&& (1 : Int32))) rfl ?_
  have J35 : ∀ (T' : State) (h' : Heap) (k0 : Value), own_S p l e room_1 s m #[(.int p0), (.int p1), (.int p2), (.int p3), (.int p4), (.int p5)] below meth c n0 T' h' 1 1 → own_Kp h0 h' [] → own_Box Z h' k0 → own_Fin p e below (own_KL s n0) (T'.setTop (mkF m 35 #[.val (.int p0), .val (.int p1), .val (.int p2), .val (.int p3), .val (.int p4), .val (.int p5), .val (.int (3 : Int32)), .val (.int (0 : Int32)), .unset, .unset, .unset, .unset, .unset, .unset, .unset, .unset, .unset, .unset, .unset, .unset, .unset] [k0])) := by
    intro T1 h1 k0 Y1 K1 B1
    have hr_k0 : k0.isRef = true := own_BoxRef B1
    refine own_astore Y1 hx (pc' := 37) (Ls' := #[.val (.int p0), .val (.int p1), .val (.int p2), .val (.int p3), .val (.int p4), .val (.int p5), .val (.int (3 : Int32)), .val (.int (0 : Int32)), .val k0, .unset, .unset, .unset, .unset, .unset, .unset, .unset, .unset, .unset, .unset, .unset, .unset]) (hb hby at_35) rfl hr_k0 (own_stV hr_k0 rfl (Or.inl rfl) rfl) ?_
    refine own_iload Y1 hx (pc' := 39) (hb hby at_37) rfl rfl ?_
    refine own_iconst Y1 hx (pc' := 40) (x := (2 : Int32)) (hb hby at_39) rfl (by decide) ?_
    refine own_iand Y1 hx (pc' := 41) (hb hby at_40) rfl (z := (p5 &&& (2 : Int32))) rfl ?_
    have J52 : ∀ (T' : State) (h' : Heap) (k1 : Value), own_S p l e room_1 s m #[(.int p0), (.int p1), (.int p2), (.int p3), (.int p4), (.int p5)] below meth c n0 T' h' 2 2 → own_Kp h1 h' [] → own_Box Z h' k1 → own_Fin p e below (own_KL s n0) (T'.setTop (mkF m 52 #[.val (.int p0), .val (.int p1), .val (.int p2), .val (.int p3), .val (.int p4), .val (.int p5), .val (.int (3 : Int32)), .val (.int (0 : Int32)), .val k0, .unset, .unset, .unset, .unset, .unset, .unset, .unset, .unset, .unset, .unset, .unset, .unset] [k1])) := by
      intro T2 h2 k1 Y2 K2 B2
      have hr_k1 : k1.isRef = true := own_BoxRef B2
      refine own_astore Y2 hx (pc' := 54) (Ls' := #[.val (.int p0), .val (.int p1), .val (.int p2), .val (.int p3), .val (.int p4), .val (.int p5), .val (.int (3 : Int32)), .val (.int (0 : Int32)), .val k0, .val k1, .unset, .unset, .unset, .unset, .unset, .unset, .unset, .unset, .unset, .unset, .unset]) (hb hby at_52) rfl hr_k1 (own_stV hr_k1 rfl (Or.inl rfl) rfl) ?_
      refine own_iload Y2 hx (pc' := 56) (hb hby at_54) rfl rfl ?_
      refine own_iconst Y2 hx (pc' := 57) (x := (4 : Int32)) (hb hby at_56) rfl (by decide) ?_
      refine own_iand Y2 hx (pc' := 58) (hb hby at_57) rfl (z := (p5 &&& (4 : Int32))) rfl ?_
      have J69 : ∀ (T' : State) (h' : Heap) (k2 : Value), own_S p l e room_1 s m #[(.int p0), (.int p1), (.int p2), (.int p3), (.int p4), (.int p5)] below meth c n0 T' h' 3 3 → own_Kp h2 h' [] → own_Box Z h' k2 → own_Fin p e below (own_KL s n0) (T'.setTop (mkF m 69 #[.val (.int p0), .val (.int p1), .val (.int p2), .val (.int p3), .val (.int p4), .val (.int p5), .val (.int (3 : Int32)), .val (.int (0 : Int32)), .val k0, .val k1, .unset, .unset, .unset, .unset, .unset, .unset, .unset, .unset, .unset, .unset, .unset] [k2])) := by
        intro T3 h3 k2 Y3 K3 B3
        have hr_k2 : k2.isRef = true := own_BoxRef B3
        refine own_astore Y3 hx (pc' := 71) (Ls' := #[.val (.int p0), .val (.int p1), .val (.int p2), .val (.int p3), .val (.int p4), .val (.int p5), .val (.int (3 : Int32)), .val (.int (0 : Int32)), .val k0, .val k1, .val k2, .unset, .unset, .unset, .unset, .unset, .unset, .unset, .unset, .unset, .unset]) (hb hby at_69) rfl hr_k2 (own_stV hr_k2 rfl (Or.inl rfl) rfl) ?_
        refine own_iload Y3 hx (pc' := 73) (hb hby at_71) rfl rfl ?_
        refine own_bipush Y3 hx (pc' := 75) (x := (8 : Int32)) (hb hby at_73) rfl (by decide) ?_
        refine own_iand Y3 hx (pc' := 76) (hb hby at_75) rfl (z := (p5 &&& (8 : Int32))) rfl ?_
        have J87 : ∀ (T' : State) (h' : Heap) (v0 : Value), own_S p l e room_1 s m #[(.int p0), (.int p1), (.int p2), (.int p3), (.int p4), (.int p5)] below meth c n0 T' h' 4 4 → own_Kp h3 h' [] → own_Box Z h' v0 → own_Fin p e below (own_KL s n0) (T'.setTop (mkF m 87 #[.val (.int p0), .val (.int p1), .val (.int p2), .val (.int p3), .val (.int p4), .val (.int p5), .val (.int (3 : Int32)), .val (.int (0 : Int32)), .val k0, .val k1, .val k2, .unset, .unset, .unset, .unset, .unset, .unset, .unset, .unset, .unset, .unset] [v0])) := by
          intro T4 h4 v0 Y4 K4 B4
          have hr_v0 : v0.isRef = true := own_BoxRef B4
          refine own_astore Y4 hx (pc' := 89) (Ls' := #[.val (.int p0), .val (.int p1), .val (.int p2), .val (.int p3), .val (.int p4), .val (.int p5), .val (.int (3 : Int32)), .val (.int (0 : Int32)), .val k0, .val k1, .val k2, .val v0, .unset, .unset, .unset, .unset, .unset, .unset, .unset, .unset, .unset]) (hb hby at_87) rfl hr_v0 (own_stV hr_v0 rfl (Or.inl rfl) rfl) ?_
          refine own_iload Y4 hx (pc' := 91) (hb hby at_89) rfl rfl ?_
          refine own_bipush Y4 hx (pc' := 93) (x := (16 : Int32)) (hb hby at_91) rfl (by decide) ?_
          refine own_iand Y4 hx (pc' := 94) (hb hby at_93) rfl (z := (p5 &&& (16 : Int32))) rfl ?_
          have J106 : ∀ (T' : State) (h' : Heap) (v1 : Value), own_S p l e room_1 s m #[(.int p0), (.int p1), (.int p2), (.int p3), (.int p4), (.int p5)] below meth c n0 T' h' 5 5 → own_Kp h4 h' [] → own_Box Z h' v1 → own_Fin p e below (own_KL s n0) (T'.setTop (mkF m 106 #[.val (.int p0), .val (.int p1), .val (.int p2), .val (.int p3), .val (.int p4), .val (.int p5), .val (.int (3 : Int32)), .val (.int (0 : Int32)), .val k0, .val k1, .val k2, .val v0, .unset, .unset, .unset, .unset, .unset, .unset, .unset, .unset, .unset] [v1])) := by
            intro T5 h5 v1 Y5 K5 B5
            have hr_v1 : v1.isRef = true := own_BoxRef B5
            refine own_astore Y5 hx (pc' := 108) (Ls' := #[.val (.int p0), .val (.int p1), .val (.int p2), .val (.int p3), .val (.int p4), .val (.int p5), .val (.int (3 : Int32)), .val (.int (0 : Int32)), .val k0, .val k1, .val k2, .val v0, .val v1, .unset, .unset, .unset, .unset, .unset, .unset, .unset, .unset]) (hb hby at_106) rfl hr_v1 (own_stV hr_v1 rfl (Or.inl rfl) rfl) ?_
            refine own_iload Y5 hx (pc' := 110) (hb hby at_108) rfl rfl ?_
            refine own_bipush Y5 hx (pc' := 112) (x := (32 : Int32)) (hb hby at_110) rfl (by decide) ?_
            refine own_iand Y5 hx (pc' := 113) (hb hby at_112) rfl (z := (p5 &&& (32 : Int32))) rfl ?_
            have J125 : ∀ (T' : State) (h' : Heap) (v2 : Value), own_S p l e room_1 s m #[(.int p0), (.int p1), (.int p2), (.int p3), (.int p4), (.int p5)] below meth c n0 T' h' 6 6 → own_Kp h5 h' [] → own_Box Z h' v2 → own_Fin p e below (own_KL s n0) (T'.setTop (mkF m 125 #[.val (.int p0), .val (.int p1), .val (.int p2), .val (.int p3), .val (.int p4), .val (.int p5), .val (.int (3 : Int32)), .val (.int (0 : Int32)), .val k0, .val k1, .val k2, .val v0, .val v1, .unset, .unset, .unset, .unset, .unset, .unset, .unset, .unset] [v2])) := by
              intro T6 h6 v2 Y6 K6 B6
              have hr_v2 : v2.isRef = true := own_BoxRef B6
              refine own_astore Y6 hx (pc' := 127) (Ls' := #[.val (.int p0), .val (.int p1), .val (.int p2), .val (.int p3), .val (.int p4), .val (.int p5), .val (.int (3 : Int32)), .val (.int (0 : Int32)), .val k0, .val k1, .val k2, .val v0, .val v1, .val v2, .unset, .unset, .unset, .unset, .unset, .unset, .unset]) (hb hby at_125) rfl hr_v2 (own_stV hr_v2 rfl (Or.inl rfl) rfl) ?_
              refine own_iconst Y6 hx (pc' := 128) (x := (4 : Int32)) (hb hby at_127) rfl (by decide) ?_
              have KC8 : own_Kp h0 h6 [] := (((((((own_Kp.refl h0 []).trans K1 own_all0).trans K2 own_all0).trans K3 own_all0).trans K4 own_all0).trans K5 own_all0).trans K6 own_all0)
              refine own_anew Y6 hx (pc' := 131) (cap := 4) (cl' := 7) (sl' := 10) (vs := [.null, .null, .null, .null]) hZ hown (own_w hw 8 rfl) (own_w hw 9 rfl) (hb hby at_128) rfl (by decide) (by decide) (by decide) rfl rfl (by decide) (by decide) rfl (fun T7 h7 b7 k7 Y7 K7 le7 V7 O7 => ?_)
              have sz_b7 : Array.size h0 ≤ b7 := Nat.le_trans KC8.1 le7
              refine own_astore Y7 hx (pc' := 133) (Ls' := #[.val (.int p0), .val (.int p1), .val (.int p2), .val (.int p3), .val (.int p4), .val (.int p5), .val (.int (3 : Int32)), .val (.int (0 : Int32)), .val k0, .val k1, .val k2, .val v0, .val v1, .val v2, .val (.ref b7), .unset, .unset, .unset, .unset, .unset, .unset]) (hb hby at_131) rfl rfl rfl ?_
              refine own_iconst Y7 hx (pc' := 134) (x := (4 : Int32)) (hb hby at_133) rfl (by decide) ?_
              have KC10 : own_Kp h0 h7 [] := (KC8.trans K7 own_all0)
              refine own_anew Y7 hx (pc' := 137) (cap := 4) (cl' := 8) (sl' := 14) (vs := [.null, .null, .null, .null]) hZ hown (own_w hw 8 rfl) (own_w hw 9 rfl) (hb hby at_134) rfl (by decide) (by decide) (by decide) rfl rfl (by decide) (by decide) rfl (fun T9 h9 b9 k9 Y9 K9 le9 V9 O9 => ?_)
              have sz_b9 : Array.size h0 ≤ b9 := Nat.le_trans KC10.1 le9
              refine own_astore Y9 hx (pc' := 139) (Ls' := #[.val (.int p0), .val (.int p1), .val (.int p2), .val (.int p3), .val (.int p4), .val (.int p5), .val (.int (3 : Int32)), .val (.int (0 : Int32)), .val k0, .val k1, .val k2, .val v0, .val v1, .val v2, .val (.ref b7), .val (.ref b9), .unset, .unset, .unset, .unset, .unset]) (hb hby at_137) rfl rfl rfl ?_
              refine own_aload Y9 hx (pc' := 141) (hb hby at_139) rfl rfl rfl ?_
              refine own_iconst Y9 hx (pc' := 142) (x := (0 : Int32)) (hb hby at_141) rfl (by decide) ?_
              refine own_aload Y9 hx (pc' := 144) (hb hby at_142) rfl rfl hr_k0 ?_
              have F12 := (own_A V7 K9 own_out0)
              have F13 := (own_B (own_B (own_B (own_B (own_B (own_B (own_B B1 K2 own_off0) K3 own_off0) K4 own_off0) K5 own_off0) K6 own_off0) K7 own_off0) K9 own_off0)
              refine own_aast Y9 hx (pc' := 145) (i := 0) (vs' := [k0, .null, .null, .null]) hZ F12 (by decide) rfl (by show 0 < 4; decide) rfl (fun _ A q => own_stoB A q O7 F13) (own_fitR rfl hr_k0) (Nat.le_trans Z0 sz_b7) rfl (hb hby at_144) rfl (fun T11 h11 Y11 K11 V11 => ?_)
              refine own_aload Y11 hx (pc' := 147) (hb hby at_145) rfl rfl rfl ?_
              refine own_iconst Y11 hx (pc' := 148) (x := (0 : Int32)) (hb hby at_147) rfl (by decide) ?_
              refine own_aload Y11 hx (pc' := 150) (hb hby at_148) rfl rfl hr_v0 ?_
              have D15 : b7 ≠ b9 := (Nat.ne_of_lt (Nat.lt_of_lt_of_le V7.lt le9))
              have F16 := (own_A V9 K11 (own_out (Ne.symm D15) own_out0))
              have F17 := (own_B (own_B B4 K5 own_off0) K6 own_off0)
              have O18 := (own_offN F17 le7)
              have F19 := (own_B (own_B (own_B (own_B (own_B B4 K5 own_off0) K6 own_off0) K7 own_off0) K9 own_off0) K11 (own_offS O18 own_off0))
              refine own_aast Y11 hx (pc' := 151) (i := 0) (vs' := [v0, .null, .null, .null]) hZ F16 (by decide) rfl (by show 0 < 4; decide) rfl (fun _ A q => own_stoB A q O9 F19) (own_fitR rfl hr_v0) (Nat.le_trans Z0 sz_b9) rfl (hb hby at_150) rfl (fun T14 h14 Y14 K14 V14 => ?_)
              refine own_iload Y14 hx (pc' := 153) (hb hby at_151) rfl rfl ?_
              refine own_iconst Y14 hx (pc' := 154) (x := (2 : Int32)) (hb hby at_153) rfl (by decide) ?_
              refine own_icmpNo Y14 hx (pc' := 157) (hb hby at_154) rfl (by decide) ?_
              refine own_aload Y14 hx (pc' := 159) (hb hby at_157) rfl rfl rfl ?_
              refine own_iconst Y14 hx (pc' := 160) (x := (1 : Int32)) (hb hby at_159) rfl (by decide) ?_
              refine own_aload Y14 hx (pc' := 162) (hb hby at_160) rfl rfl hr_k1 ?_
              have F21 := (own_A V11 K14 (own_out D15 own_out0))
              have F22 := (own_B (own_B (own_B (own_B B2 K3 own_off0) K4 own_off0) K5 own_off0) K6 own_off0)
              have O23 := (own_offN F22 le7)
              have F24 := (own_B F22 K7 own_off0)
              have O25 := (own_offN F24 le9)
              have F26 := (own_B (own_B (own_B (own_B (own_B (own_B (own_B (own_B B2 K3 own_off0) K4 own_off0) K5 own_off0) K6 own_off0) K7 own_off0) K9 own_off0) K11 (own_offS O23 own_off0)) K14 (own_offS O25 own_off0))
              refine own_aast Y14 hx (pc' := 163) (i := 1) (vs' := [k0, k1, .null, .null]) hZ F21 (by decide) rfl (by show 1 < 4; decide) rfl (fun _ A q => own_stoB A q O7 F26) (own_fitR rfl hr_k1) (Nat.le_trans Z0 sz_b7) rfl (hb hby at_162) rfl (fun T20 h20 Y20 K20 V20 => ?_)
              refine own_aload Y20 hx (pc' := 165) (hb hby at_163) rfl rfl rfl ?_
              refine own_iconst Y20 hx (pc' := 166) (x := (1 : Int32)) (hb hby at_165) rfl (by decide) ?_
              refine own_aload Y20 hx (pc' := 168) (hb hby at_166) rfl rfl hr_v1 ?_
              have F28 := (own_A V14 K20 (own_out (Ne.symm D15) own_out0))
              have F29 := (own_B B5 K6 own_off0)
              have O30 := (own_offN F29 le7)
              have F31 := (own_B F29 K7 own_off0)
              have O32 := (own_offN F31 le9)
              have F33 := (own_B (own_B (own_B (own_B (own_B (own_B B5 K6 own_off0) K7 own_off0) K9 own_off0) K11 (own_offS O30 own_off0)) K14 (own_offS O32 own_off0)) K20 (own_offS O30 own_off0))
              refine own_aast Y20 hx (pc' := 169) (i := 1) (vs' := [v0, v1, .null, .null]) hZ F28 (by decide) rfl (by show 1 < 4; decide) rfl (fun _ A q => own_stoB A q O9 F33) (own_fitR rfl hr_v1) (Nat.le_trans Z0 sz_b9) rfl (hb hby at_168) rfl (fun T27 h27 Y27 K27 V27 => ?_)
              refine own_iload Y27 hx (pc' := 171) (hb hby at_169) rfl rfl ?_
              refine own_iconst Y27 hx (pc' := 172) (x := (3 : Int32)) (hb hby at_171) rfl (by decide) ?_
              refine own_icmpNo Y27 hx (pc' := 175) (hb hby at_172) rfl (by decide) ?_
              refine own_aload Y27 hx (pc' := 177) (hb hby at_175) rfl rfl rfl ?_
              refine own_iconst Y27 hx (pc' := 178) (x := (2 : Int32)) (hb hby at_177) rfl (by decide) ?_
              refine own_aload Y27 hx (pc' := 180) (hb hby at_178) rfl rfl hr_k2 ?_
              have F35 := (own_A V20 K27 (own_out D15 own_out0))
              have F36 := (own_B (own_B (own_B B3 K4 own_off0) K5 own_off0) K6 own_off0)
              have O37 := (own_offN F36 le7)
              have F38 := (own_B F36 K7 own_off0)
              have O39 := (own_offN F38 le9)
              have F40 := (own_B (own_B (own_B (own_B (own_B (own_B (own_B (own_B (own_B B3 K4 own_off0) K5 own_off0) K6 own_off0) K7 own_off0) K9 own_off0) K11 (own_offS O37 own_off0)) K14 (own_offS O39 own_off0)) K20 (own_offS O37 own_off0)) K27 (own_offS O39 own_off0))
              refine own_aast Y27 hx (pc' := 181) (i := 2) (vs' := [k0, k1, k2, .null]) hZ F35 (by decide) rfl (by show 2 < 4; decide) rfl (fun _ A q => own_stoB A q O7 F40) (own_fitR rfl hr_k2) (Nat.le_trans Z0 sz_b7) rfl (hb hby at_180) rfl (fun T34 h34 Y34 K34 V34 => ?_)
              refine own_aload Y34 hx (pc' := 183) (hb hby at_181) rfl rfl rfl ?_
              refine own_iconst Y34 hx (pc' := 184) (x := (2 : Int32)) (hb hby at_183) rfl (by decide) ?_
              refine own_aload Y34 hx (pc' := 186) (hb hby at_184) rfl rfl hr_v2 ?_
              have F42 := (own_A V27 K34 (own_out (Ne.symm D15) own_out0))
              have O43 := (own_offN B6 le7)
              have F44 := (own_B B6 K7 own_off0)
              have O45 := (own_offN F44 le9)
              have F46 := (own_B (own_B (own_B (own_B (own_B (own_B (own_B B6 K7 own_off0) K9 own_off0) K11 (own_offS O43 own_off0)) K14 (own_offS O45 own_off0)) K20 (own_offS O43 own_off0)) K27 (own_offS O45 own_off0)) K34 (own_offS O43 own_off0))
              refine own_aast Y34 hx (pc' := 187) (i := 2) (vs' := [v0, v1, v2, .null]) hZ F42 (by decide) rfl (by show 2 < 4; decide) rfl (fun _ A q => own_stoB A q O9 F46) (own_fitR rfl hr_v2) (Nat.le_trans Z0 sz_b9) rfl (hb hby at_186) rfl (fun T41 h41 Y41 K41 V41 => ?_)
              have KC48 : own_Kp h0 h41 [] := (((((((KC10.trans K9 own_all0).trans K11 (own_allS (Or.inr sz_b7) own_all0)).trans K14 (own_allS (Or.inr sz_b9) own_all0)).trans K20 (own_allS (Or.inr sz_b7) own_all0)).trans K27 (own_allS (Or.inr sz_b9) own_all0)).trans K34 (own_allS (Or.inr sz_b7) own_all0)).trans K41 (own_allS (Or.inr sz_b9) own_all0))
              refine own_new Y41 hx (pc' := 190) (cl' := 9) (sl' := 25) hZ hown (own_w hw 11 rfl) (own_w hw 12 rfl) (own_w hw 13 rfl) (hb hby at_187) rfl rfl rfl (by decide) (by decide) (fun T47 h47 b47 Y47 K47 le47 E47 D47 => ?_)
              have sz_b47 : Array.size h0 ≤ b47 := Nat.le_trans KC48.1 le47
              refine own_dup Y47 hx (pc' := 191) (hb hby at_190) rfl rfl ?_
              refine own_special Y47 hx (pc' := 194) (W := 1) (cl' := 9) (sl' := 25) (as' := []) (S' := [(.ref b47)]) (a := b47) rfl hZ hown (own_w hw 14 rfl) (own_w hw 15 rfl) (own_w hw 13 rfl) (own_w hw 16 rfl) (by decide) (rm2_1 l Z a0 hw [] b47 h47 n0 (own_sz Y47)) (hb hby at_191) rfl (by rw [hml]; rfl) rfl (lenOf pd___V rfl) rfl (by decide) (by decide) rfl rfl (by decide) (by decide) own_Same.sz (own_fixS (S2 := [(.ref b47)]) rfl (fun T49 Y49 => ?_))
              refine own_astore Y49 hx (pc' := 196) (Ls' := #[.val (.int p0), .val (.int p1), .val (.int p2), .val (.int p3), .val (.int p4), .val (.int p5), .val (.int (3 : Int32)), .val (.int (0 : Int32)), .val k0, .val k1, .val k2, .val v0, .val v1, .val v2, .val (.ref b7), .val (.ref b9), .val (.ref b47), .unset, .unset, .unset, .unset]) (hb hby at_194) rfl rfl rfl ?_
              refine own_aload Y49 hx (pc' := 198) (hb hby at_196) rfl rfl rfl ?_
              refine own_iconst Y49 hx (pc' := 199) (x := (0 : Int32)) (hb hby at_198) rfl (by decide) ?_
              refine own_aload Y49 hx (pc' := 201) (hb hby at_199) rfl rfl hr_k0 ?_
              refine own_aload Y49 hx (pc' := 203) (hb hby at_201) rfl rfl hr_v0 ?_
              have F51 := (own_B (own_B (own_B (own_B (own_B B1 K2 own_off0) K3 own_off0) K4 own_off0) K5 own_off0) K6 own_off0)
              have O52 := (own_offN F51 le7)
              have F53 := (own_B F51 K7 own_off0)
              have O54 := (own_offN F53 le9)
              have F55 := (own_B (own_B (own_B (own_B (own_B (own_B (own_B F13 K11 (own_offS O52 own_off0)) K14 (own_offS O54 own_off0)) K20 (own_offS O52 own_off0)) K27 (own_offS O54 own_off0)) K34 (own_offS O52 own_off0)) K41 (own_offS O54 own_off0)) K47 own_off0)
              have F56 := (own_B F17 K7 own_off0)
              have O57 := (own_offN F56 le9)
              have F58 := (own_B (own_B (own_B (own_B (own_B (own_B F19 K14 (own_offS O57 own_off0)) K20 (own_offS O18 own_off0)) K27 (own_offS O57 own_off0)) K34 (own_offS O18 own_off0)) K41 (own_offS O57 own_off0)) K47 own_off0)
              have F59 := (own_St (own_St (own_St (own_St (own_St (own_St (own_St (own_St (own_St (own_St (own_St (own_St (own_St (own_St (own_St S_NULL_KEY K1 own_all0) K2 own_all0) K3 own_all0) K4 own_all0) K5 own_all0) K6 own_all0) K7 own_all0) K9 own_all0) K11 (own_allS (own_plainA F12) own_all0)) K14 (own_allS (own_plainA F16) own_all0)) K20 (own_allS (own_plainA F21) own_all0)) K27 (own_allS (own_plainA F28) own_all0)) K34 (own_allS (own_plainA F35) own_all0)) K41 (own_allS (own_plainA F42) own_all0)) K47 own_all0)
              have F60 := (own_E (own_E (own_E (own_E (own_E (own_E (own_E (own_E (own_E (own_E (own_E (own_E (own_E (own_E (own_E E_NULL_KEY K1) K2) K3) K4) K5) K6) K7) K9) K11) K14) K20) K27) K34) K41) K47)
              refine own_virtual Y49 hx (pc' := 206) (W := 0) (cl' := 9) (sl' := 25) (as' := [(.int (0 : Int32)), k0, v0]) (S' := []) (a := b47) hZ hown (own_w hw 20 rfl) (own_w hw 21 rfl) (notFace_of_selects (args := #[]) (mvT hZ (own_w hw 23 rfl))) (own_w hw 23 rfl) (own_w hw 22 rfl) (own_w hw 13 rfl) (own_w hw 24 rfl) (by decide) E47 (rm4_3 l Z a0 hw [] b47 k0 v0 w_NULL_KEY h47 n0 (own_sz Y49) F55 F58 F59 F60 (D47 (Or.inl (own_w hw 31 rfl)) (ty := (.object zs2)) (by decide)) E47 (Nat.le_trans Z0 sz_b47) (D47 (Or.inl (own_w hw 33 rfl)) (ty := (.object zs2)) (by decide))) (hb hby at_203) rfl (by rw [hml]; rfl) rfl (lenOf pd__ILjava_lang_Object_Ljava_lang_Object__V rfl) rfl (by decide) (by decide) rfl rfl (by decide) (by decide) P4_3_sz (own_fixR (S2 := []) rfl (fun T50 h50 Y50 R50 => ?_))
              obtain ⟨K50, G50_0, G50_1⟩ := R50
              refine own_iload Y50 hx (pc' := 208) (hb hby at_206) rfl rfl ?_
              refine own_iconst Y50 hx (pc' := 209) (x := (2 : Int32)) (hb hby at_208) rfl (by decide) ?_
              refine own_icmpNo Y50 hx (pc' := 212) (hb hby at_209) rfl (by decide) ?_
              refine own_aload Y50 hx (pc' := 214) (hb hby at_212) rfl rfl rfl ?_
              refine own_iconst Y50 hx (pc' := 215) (x := (1 : Int32)) (hb hby at_214) rfl (by decide) ?_
              refine own_aload Y50 hx (pc' := 217) (hb hby at_215) rfl rfl hr_k1 ?_
              refine own_aload Y50 hx (pc' := 219) (hb hby at_217) rfl rfl hr_v1 ?_
              have F62 := (own_E E47 K50)
              have F63 := (own_B (own_B (own_B (own_B F26 K20 (own_offS O23 own_off0)) K27 (own_offS O25 own_off0)) K34 (own_offS O23 own_off0)) K41 (own_offS O25 own_off0))
              have O64 := (own_offN F63 le47)
              have F65 := (own_B (own_B (own_B (own_B (own_B (own_B F26 K20 (own_offS O23 own_off0)) K27 (own_offS O25 own_off0)) K34 (own_offS O23 own_off0)) K41 (own_offS O25 own_off0)) K47 own_off0) K50 (own_offS O64 (own_offS O64 own_off0)))
              have F66 := (own_B (own_B (own_B F33 K27 (own_offS O32 own_off0)) K34 (own_offS O30 own_off0)) K41 (own_offS O32 own_off0))
              have O67 := (own_offN F66 le47)
              have F68 := (own_B (own_B (own_B (own_B (own_B F33 K27 (own_offS O32 own_off0)) K34 (own_offS O30 own_off0)) K41 (own_offS O32 own_off0)) K47 own_off0) K50 (own_offS O67 (own_offS O67 own_off0)))
              have F69 := (own_St F59 K50 (own_allS (own_plain E47) (own_allS (own_plain E47) own_all0)))
              have F70 := (own_E F60 K50)
              have F71 := (own_F (v := .null) (D47 (Or.inl (own_w hw 35 rfl)) (ty := (.object zs2)) (by decide)) K50 (own_nr (sl_2 hw) (own_nr (sl_3 hw) own_nin0)))
              have F72 := (own_F (v := .null) (D47 (Or.inl (own_w hw 37 rfl)) (ty := (.object zs2)) (by decide)) K50 (own_nr (sl_4 hw) (own_nr (sl_5 hw) own_nin0)))
              refine own_virtual Y50 hx (pc' := 222) (W := 0) (cl' := 9) (sl' := 25) (as' := [(.int (1 : Int32)), k1, v1]) (S' := []) (a := b47) hZ hown (own_w hw 20 rfl) (own_w hw 21 rfl) (notFace_of_selects (args := #[]) (mvT hZ (own_w hw 23 rfl))) (own_w hw 23 rfl) (own_w hw 22 rfl) (own_w hw 13 rfl) (own_w hw 24 rfl) (by decide) F62 (rm4_16 l Z a0 hw [] b47 k1 v1 w_NULL_KEY h50 n0 (own_sz Y50) F65 F68 F69 F70 F71 F62 (Nat.le_trans Z0 sz_b47) F72) (hb hby at_219) rfl (by rw [hml]; rfl) rfl (lenOf pd__ILjava_lang_Object_Ljava_lang_Object__V rfl) rfl (by decide) (by decide) rfl rfl (by decide) (by decide) P4_16_sz (own_fixR (S2 := []) rfl (fun T61 h61 Y61 R61 => ?_))
              obtain ⟨K61, G61_0, G61_1⟩ := R61
              refine own_iload Y61 hx (pc' := 224) (hb hby at_222) rfl rfl ?_
              refine own_iconst Y61 hx (pc' := 225) (x := (3 : Int32)) (hb hby at_224) rfl (by decide) ?_
              refine own_icmpNo Y61 hx (pc' := 228) (hb hby at_225) rfl (by decide) ?_
              refine own_aload Y61 hx (pc' := 230) (hb hby at_228) rfl rfl rfl ?_
              refine own_iconst Y61 hx (pc' := 231) (x := (2 : Int32)) (hb hby at_230) rfl (by decide) ?_
              refine own_aload Y61 hx (pc' := 233) (hb hby at_231) rfl rfl hr_k2 ?_
              refine own_aload Y61 hx (pc' := 235) (hb hby at_233) rfl rfl hr_v2 ?_
              have F74 := (own_E F62 K61)
              have F75 := (own_B (own_B F40 K34 (own_offS O37 own_off0)) K41 (own_offS O39 own_off0))
              have O76 := (own_offN F75 le47)
              have F77 := (own_B (own_B (own_B (own_B (own_B F40 K34 (own_offS O37 own_off0)) K41 (own_offS O39 own_off0)) K47 own_off0) K50 (own_offS O76 (own_offS O76 own_off0))) K61 (own_offS O76 (own_offS O76 own_off0)))
              have F78 := (own_B F46 K41 (own_offS O45 own_off0))
              have O79 := (own_offN F78 le47)
              have F80 := (own_B (own_B (own_B (own_B F46 K41 (own_offS O45 own_off0)) K47 own_off0) K50 (own_offS O79 (own_offS O79 own_off0))) K61 (own_offS O79 (own_offS O79 own_off0)))
              have F81 := (own_St F69 K61 (own_allS (own_plain F62) (own_allS (own_plain F62) own_all0)))
              have F82 := (own_E F70 K61)
              have F83 := (own_F (v := .null) (own_F (v := .null) (D47 (Or.inl (own_w hw 44 rfl)) (ty := (.object zs2)) (by decide)) K50 (own_nr (sl_6 hw) (own_nr (sl_7 hw) own_nin0))) K61 (own_nr (sl_12 hw) (own_nr (sl_13 hw) own_nin0)))
              have F84 := (own_F (v := .null) (own_F (v := .null) (D47 (Or.inl (own_w hw 46 rfl)) (ty := (.object zs2)) (by decide)) K50 (own_nr (sl_8 hw) (own_nr (sl_9 hw) own_nin0))) K61 (own_nr (sl_10 hw) (own_nr (sl_14 hw) own_nin0)))
              refine own_virtual Y61 hx (pc' := 238) (W := 0) (cl' := 9) (sl' := 25) (as' := [(.int (2 : Int32)), k2, v2]) (S' := []) (a := b47) hZ hown (own_w hw 20 rfl) (own_w hw 21 rfl) (notFace_of_selects (args := #[]) (mvT hZ (own_w hw 23 rfl))) (own_w hw 23 rfl) (own_w hw 22 rfl) (own_w hw 13 rfl) (own_w hw 24 rfl) (by decide) F74 (rm4_28 l Z a0 hw [] b47 k2 v2 w_NULL_KEY h61 n0 (own_sz Y61) F77 F80 F81 F82 F83 F74 (Nat.le_trans Z0 sz_b47) F84) (hb hby at_235) rfl (by rw [hml]; rfl) rfl (lenOf pd__ILjava_lang_Object_Ljava_lang_Object__V rfl) rfl (by decide) (by decide) rfl rfl (by decide) (by decide) P4_28_sz (own_fixR (S2 := []) rfl (fun T73 h73 Y73 R73 => ?_))
              obtain ⟨K73, G73_0, G73_1⟩ := R73
              refine own_aload Y73 hx (pc' := 240) (hb hby at_238) rfl rfl rfl ?_
              refine own_iload Y73 hx (pc' := 242) (hb hby at_240) rfl rfl ?_
              have F86 := (own_E F74 K73)
              have F87 := (own_F (v := (.ref (own_sa w_NULL_KEY k1))) G61_0 K73 (own_nr (sl_25 hw) (own_nr (sl_26 hw) own_nin0)))
              have F88 := (own_B (own_B F65 K61 (own_offS O64 (own_offS O64 own_off0))) K73 (own_offS O64 (own_offS O64 own_off0)))
              have F89 := (own_F (v := (.ref (own_sa w_NULL_KEY k0))) (own_F (v := (.ref (own_sa w_NULL_KEY k0))) G50_0 K61 (own_nr (sl_16 hw) (own_nr (sl_17 hw) own_nin0))) K73 (own_nr (sl_18 hw) (own_nr (sl_19 hw) own_nin0)))
              have F90 := (own_B (own_B (own_B (own_B (own_B (own_B F13 K11 (own_offS O52 own_off0)) K14 (own_offS O54 own_off0)) K20 (own_offS O52 own_off0)) K27 (own_offS O54 own_off0)) K34 (own_offS O52 own_off0)) K41 (own_offS O54 own_off0))
              have O91 := (own_offN F90 le47)
              have F92 := (own_B (own_B (own_B F55 K50 (own_offS O91 (own_offS O91 own_off0))) K61 (own_offS O91 (own_offS O91 own_off0))) K73 (own_offS O91 (own_offS O91 own_off0)))
              have F93 := (own_F (v := v1) G61_1 K73 (own_nr (sl_27 hw) (own_nr (sl_28 hw) own_nin0)))
              have F94 := (own_B (own_B F68 K61 (own_offS O67 (own_offS O67 own_off0))) K73 (own_offS O67 (own_offS O67 own_off0)))
              have F95 := (own_F (v := v0) (own_F (v := v0) G50_1 K61 (own_nr (sl_20 hw) (own_nr (sl_21 hw) own_nin0))) K73 (own_nr (sl_22 hw) (own_nr (sl_23 hw) own_nin0)))
              have F96 := (own_B (own_B (own_B (own_B (own_B F19 K14 (own_offS O57 own_off0)) K20 (own_offS O18 own_off0)) K27 (own_offS O57 own_off0)) K34 (own_offS O18 own_off0)) K41 (own_offS O57 own_off0))
              have O97 := (own_offN F96 le47)
              have F98 := (own_B (own_B (own_B F58 K50 (own_offS O97 (own_offS O97 own_off0))) K61 (own_offS O97 (own_offS O97 own_off0))) K73 (own_offS O97 (own_offS O97 own_off0)))
              have F99 := (own_B F77 K73 (own_offS O76 (own_offS O76 own_off0)))
              have F100 := (own_B F80 K73 (own_offS O79 (own_offS O79 own_off0)))
              refine own_virtual Y73 hx (pc' := 245) (W := 0) (cl' := 9) (sl' := 25) (as' := [(.int (0 : Int32))]) (S' := []) (a := b47) hZ hown (own_w hw 38 rfl) (own_w hw 39 rfl) (notFace_of_selects (args := #[]) (mvT hZ (own_w hw 41 rfl))) (own_w hw 41 rfl) (own_w hw 40 rfl) (own_w hw 13 rfl) (own_w hw 42 rfl) (by decide) F86 (rm6_29 l Z a0 hw [] b47 w_NULL_KEY k1 k0 v1 v0 k2 v2 h73 n0 (own_sz Y73) F88 F87 F92 F89 F86 (Nat.le_trans Z0 sz_b47) F94 F93 F98 F95 F99 G73_0 F100 G73_1) (hb hby at_242) rfl (by rw [hml]; rfl) rfl (lenOf pd__I_V rfl) rfl (by decide) (by decide) rfl rfl (by decide) (by decide) P6_29_sz (own_fixR (S2 := []) rfl (fun T85 h85 Y85 R85 => ?_))
              obtain ⟨K85, G85_0, G85_1, G85_2, G85_3, G85_4, G85_5⟩ := R85
              refine own_iconst Y85 hx (pc' := 246) (x := (0 : Int32)) (hb hby at_245) rfl (by decide) ?_
              refine own_iload Y85 hx (pc' := 248) (hb hby at_246) rfl rfl ?_
              refine own_icmpYes Y85 hx (pc' := 255) (hb hby at_248) (by decide) (by decide) (by decide) ?_
              refine own_iconst Y85 hx (pc' := 256) (x := (1 : Int32)) (hb hby at_255) rfl (by decide) ?_
              refine own_istore Y85 hx (pc' := 258) (Ls' := #[.val (.int p0), .val (.int p1), .val (.int p2), .val (.int p3), .val (.int p4), .val (.int p5), .val (.int (3 : Int32)), .val (.int (0 : Int32)), .val k0, .val k1, .val k2, .val v0, .val v1, .val v2, .val (.ref b7), .val (.ref b9), .val (.ref b47), .val (.int (1 : Int32)), .unset, .unset, .unset]) (hb hby at_256) rfl rfl ?_
              refine own_iconst Y85 hx (pc' := 259) (x := (1 : Int32)) (hb hby at_258) rfl (by decide) ?_
              refine own_iload Y85 hx (pc' := 261) (hb hby at_259) rfl rfl ?_
              refine own_icmpYes Y85 hx (pc' := 268) (hb hby at_261) (by decide) (by decide) (by decide) ?_
              refine own_iconst Y85 hx (pc' := 269) (x := (2 : Int32)) (hb hby at_268) rfl (by decide) ?_
              refine own_istore Y85 hx (pc' := 271) (Ls' := #[.val (.int p0), .val (.int p1), .val (.int p2), .val (.int p3), .val (.int p4), .val (.int p5), .val (.int (3 : Int32)), .val (.int (0 : Int32)), .val k0, .val k1, .val k2, .val v0, .val v1, .val v2, .val (.ref b7), .val (.ref b9), .val (.ref b47), .val (.int (1 : Int32)), .val (.int (2 : Int32)), .unset, .unset]) (hb hby at_269) rfl rfl ?_
              refine own_iconst Y85 hx (pc' := 272) (x := (2 : Int32)) (hb hby at_271) rfl (by decide) ?_
              refine own_iload Y85 hx (pc' := 274) (hb hby at_272) rfl rfl ?_
              refine own_icmpYes Y85 hx (pc' := 281) (hb hby at_274) (by decide) (by decide) (by decide) ?_
              refine own_iconst Y85 hx (pc' := 282) (x := (3 : Int32)) (hb hby at_281) rfl (by decide) ?_
              refine own_istore Y85 hx (pc' := 284) (Ls' := #[.val (.int p0), .val (.int p1), .val (.int p2), .val (.int p3), .val (.int p4), .val (.int p5), .val (.int (3 : Int32)), .val (.int (0 : Int32)), .val k0, .val k1, .val k2, .val v0, .val v1, .val v2, .val (.ref b7), .val (.ref b9), .val (.ref b47), .val (.int (1 : Int32)), .val (.int (2 : Int32)), .val (.int (3 : Int32)), .unset]) (hb hby at_282) rfl rfl ?_
              refine own_aload Y85 hx (pc' := 286) (hb hby at_284) rfl rfl rfl ?_
              have F102 := (own_E F86 K85)
              have F103 := (own_B F88 K85 (own_offS O64 (own_offS O64 (own_offS O64 (own_offS O64 (own_offS O64 (own_offS O64 own_off0)))))))
              have F104 := (own_B F99 K85 (own_offS O76 (own_offS O76 (own_offS O76 (own_offS O76 (own_offS O76 (own_offS O76 own_off0)))))))
              refine own_virtual Y85 hx (pc' := 289) (W := 0) (cl' := 9) (sl' := 25) (as' := []) (S' := []) (a := b47) hZ hown (own_w hw 47 rfl) (own_w hw 48 rfl) (notFace_of_selects (args := #[]) (mvT hZ (own_w hw 50 rfl))) (own_w hw 50 rfl) (own_w hw 49 rfl) (own_w hw 13 rfl) (own_w hw 51 rfl) (by decide) F102 (rm7_30 l Z a0 hw [] b47 w_NULL_KEY k1 k2 h85 n0 (own_sz Y85) F103 G85_0 F104 G85_2 G85_4) (hb hby at_286) rfl (by rw [hml]; rfl) rfl (lenOf pd___I rfl) rfl (by decide) (by decide) rfl rfl (by decide) (by decide) own_Same.sz (own_fixS (S2 := [(.int (2 : Int32))]) rfl (fun T101 Y101 => ?_))
              refine own_iload Y101 hx (pc' := 291) (hb hby at_289) rfl rfl ?_
              refine own_iconst Y101 hx (pc' := 292) (x := (1 : Int32)) (hb hby at_291) rfl (by decide) ?_
              refine own_isub Y101 hx (pc' := 293) (hb hby at_292) rfl (z := (2 : Int32)) (by decide) ?_
              refine own_icmpNo Y101 hx (pc' := 296) (hb hby at_293) rfl (by decide) ?_
              refine own_iconst Y101 hx (pc' := 297) (x := (1 : Int32)) (hb hby at_296) rfl (by decide) ?_
              refine own_goto Y101 hx (pc' := 301) (hb hby at_297) (by decide) (by decide) ?_
              refine own_istore Y101 hx (pc' := 303) (Ls' := #[.val (.int p0), .val (.int p1), .val (.int p2), .val (.int p3), .val (.int p4), .val (.int p5), .val (.int (3 : Int32)), .val (.int (0 : Int32)), .val k0, .val k1, .val k2, .val v0, .val v1, .val v2, .val (.ref b7), .val (.ref b9), .val (.ref b47), .val (.int (1 : Int32)), .val (.int (2 : Int32)), .val (.int (3 : Int32)), .val (.int (1 : Int32))]) (hb hby at_301) rfl rfl ?_
              refine own_iload Y101 hx (pc' := 305) (hb hby at_303) rfl rfl ?_
              refine own_ifNo Y101 hx (pc' := 308) (hb hby at_305) rfl (by decide) ?_
              refine own_aload Y101 hx (pc' := 310) (hb hby at_308) rfl rfl rfl ?_
              refine own_iconst Y101 hx (pc' := 311) (x := (0 : Int32)) (hb hby at_310) rfl (by decide) ?_
              have F106 := (own_E (own_E F82 K73) K85)
              have F107 := (own_St (own_St F81 K73 (own_allS (own_plain F74) (own_allS (own_plain F74) own_all0))) K85 (own_allS (own_plain F86) (own_allS (own_plain F86) (own_allS (own_plain F86) (own_allS (own_plain F86) (own_allS (own_plain F86) (own_allS (own_plain F86) own_all0)))))))
              refine own_virtual Y101 hx (pc' := 314) (W := 0) (cl' := 9) (sl' := 25) (as' := [(.int (0 : Int32))]) (S' := []) (a := b47) hZ hown (own_w hw 52 rfl) (own_w hw 53 rfl) (notFace_of_selects (args := #[]) (mvT hZ (own_w hw 55 rfl))) (own_w hw 55 rfl) (own_w hw 54 rfl) (own_w hw 13 rfl) (own_w hw 56 rfl) (by decide) F102 (rm8_31 l Z a0 hw [] b47 w_NULL_KEY k1 h85 n0 (own_sz Y101) F103 G85_0 F106 F107) (hb hby at_311) rfl (by rw [hml]; rfl) rfl (lenOf pd__I_Ljava_lang_Object_ rfl) rfl (by decide) (by decide) rfl rfl (by decide) (by decide) own_Same.sz (own_fixS (S2 := [k1]) rfl (fun T105 Y105 => ?_))
              refine own_castB Y105 hx (pc' := 317) hZ hown (own_w hw 8 rfl) F103 (hb hby at_314) rfl (fun T108 Y108 => ?_)
              refine own_aload Y108 hx (pc' := 319) (hb hby at_317) rfl rfl rfl ?_
              refine own_iload Y108 hx (pc' := 321) (hb hby at_319) rfl rfl ?_
              have F110 := (own_A V34 K41 (own_out D15 own_out0))
              have D111 : b7 ≠ b47 := (Nat.ne_of_lt (Nat.lt_of_lt_of_le F110.lt le47))
              have F112 := (own_A (own_A (own_A (own_A (own_A (own_A V34 K41 (own_out D15 own_out0)) K47 own_out0) K50 (own_out D111 (own_out D111 own_out0))) K61 (own_out D111 (own_out D111 own_out0))) K73 (own_out D111 (own_out D111 own_out0))) K85 (own_out D111 (own_out D111 (own_out D111 (own_out D111 (own_out D111 (own_out D111 own_out0)))))))
              refine own_aald Y108 hx (pc' := 322) (v := k1) hZ F112 (by decide) rfl rfl (hb hby at_321) rfl ?_
              refine own_static Y108 hx (pc' := 325) (W := 0) (cl' := 9) (sl' := 25) (as' := [k1, k1]) (S' := []) hZ hown (own_w hw 60 rfl) (own_w hw 61 rfl) (own_w hw 62 rfl) (own_w hw 63 rfl) (by decide) (rm10_22 l Z a0 hw [] k1 h85 n0 (own_sz Y108) F103) (hb hby at_322) rfl (by rw [hml]; rfl) rfl (lenOf pd__Ljava_lang_Integer_Ljava_lang_Integer__Z rfl) rfl (by decide) (by decide) rfl rfl (by decide) (by decide) own_Same.sz (own_fixS (S2 := [(.int (1 : Int32))]) rfl (fun T113 Y113 => ?_))
              refine own_ifNo Y113 hx (pc' := 328) (hb hby at_325) rfl (by decide) ?_
              refine own_iconst Y113 hx (pc' := 329) (x := (1 : Int32)) (hb hby at_328) rfl (by decide) ?_
              refine own_goto Y113 hx (pc' := 333) (hb hby at_329) (by decide) (by decide) ?_
              refine own_istore Y113 hx (pc' := 335) (Ls' := #[.val (.int p0), .val (.int p1), .val (.int p2), .val (.int p3), .val (.int p4), .val (.int p5), .val (.int (3 : Int32)), .val (.int (0 : Int32)), .val k0, .val k1, .val k2, .val v0, .val v1, .val v2, .val (.ref b7), .val (.ref b9), .val (.ref b47), .val (.int (1 : Int32)), .val (.int (2 : Int32)), .val (.int (3 : Int32)), .val (.int (1 : Int32))]) (hb hby at_333) rfl rfl ?_
              refine own_iload Y113 hx (pc' := 337) (hb hby at_335) rfl rfl ?_
              refine own_ifNo Y113 hx (pc' := 340) (hb hby at_337) rfl (by decide) ?_
              refine own_aload Y113 hx (pc' := 342) (hb hby at_340) rfl rfl rfl ?_
              refine own_iconst Y113 hx (pc' := 343) (x := (1 : Int32)) (hb hby at_342) rfl (by decide) ?_
              refine own_virtual Y113 hx (pc' := 346) (W := 0) (cl' := 9) (sl' := 25) (as' := [(.int (1 : Int32))]) (S' := []) (a := b47) hZ hown (own_w hw 52 rfl) (own_w hw 53 rfl) (notFace_of_selects (args := #[]) (mvT hZ (own_w hw 55 rfl))) (own_w hw 55 rfl) (own_w hw 54 rfl) (own_w hw 13 rfl) (own_w hw 56 rfl) (by decide) F102 (rm8_32 l Z a0 hw [] b47 w_NULL_KEY k2 h85 n0 (own_sz Y113) F104 G85_2 F106 F107) (hb hby at_343) rfl (by rw [hml]; rfl) rfl (lenOf pd__I_Ljava_lang_Object_ rfl) rfl (by decide) (by decide) rfl rfl (by decide) (by decide) own_Same.sz (own_fixS (S2 := [k2]) rfl (fun T114 Y114 => ?_))
              refine own_castB Y114 hx (pc' := 349) hZ hown (own_w hw 8 rfl) F104 (hb hby at_346) rfl (fun T115 Y115 => ?_)
              refine own_aload Y115 hx (pc' := 351) (hb hby at_349) rfl rfl rfl ?_
              refine own_iload Y115 hx (pc' := 353) (hb hby at_351) rfl rfl ?_
              refine own_aald Y115 hx (pc' := 354) (v := k2) hZ F112 (by decide) rfl rfl (hb hby at_353) rfl ?_
              refine own_static Y115 hx (pc' := 357) (W := 0) (cl' := 9) (sl' := 25) (as' := [k2, k2]) (S' := []) hZ hown (own_w hw 60 rfl) (own_w hw 61 rfl) (own_w hw 62 rfl) (own_w hw 63 rfl) (by decide) (rm10_22 l Z a0 hw [] k2 h85 n0 (own_sz Y115) F104) (hb hby at_354) rfl (by rw [hml]; rfl) rfl (lenOf pd__Ljava_lang_Integer_Ljava_lang_Integer__Z rfl) rfl (by decide) (by decide) rfl rfl (by decide) (by decide) own_Same.sz (own_fixS (S2 := [(.int (1 : Int32))]) rfl (fun T117 Y117 => ?_))
              refine own_ifNo Y117 hx (pc' := 360) (hb hby at_357) rfl (by decide) ?_
              refine own_iconst Y117 hx (pc' := 361) (x := (1 : Int32)) (hb hby at_360) rfl (by decide) ?_
              refine own_goto Y117 hx (pc' := 365) (hb hby at_361) (by decide) (by decide) ?_
              refine own_istore Y117 hx (pc' := 367) (Ls' := #[.val (.int p0), .val (.int p1), .val (.int p2), .val (.int p3), .val (.int p4), .val (.int p5), .val (.int (3 : Int32)), .val (.int (0 : Int32)), .val k0, .val k1, .val k2, .val v0, .val v1, .val v2, .val (.ref b7), .val (.ref b9), .val (.ref b47), .val (.int (1 : Int32)), .val (.int (2 : Int32)), .val (.int (3 : Int32)), .val (.int (1 : Int32))]) (hb hby at_365) rfl rfl ?_
              refine own_iload Y117 hx (pc' := 369) (hb hby at_367) rfl rfl ?_
              refine own_ifNo Y117 hx (pc' := 372) (hb hby at_369) rfl (by decide) ?_
              refine own_aload Y117 hx (pc' := 374) (hb hby at_372) rfl rfl rfl ?_
              refine own_iconst Y117 hx (pc' := 375) (x := (0 : Int32)) (hb hby at_374) rfl (by decide) ?_
              have F119 := (own_B F94 K85 (own_offS O67 (own_offS O67 (own_offS O67 (own_offS O67 (own_offS O67 (own_offS O67 own_off0)))))))
              refine own_virtual Y117 hx (pc' := 378) (W := 0) (cl' := 9) (sl' := 25) (as' := [(.int (0 : Int32))]) (S' := []) (a := b47) hZ hown (own_w hw 64 rfl) (own_w hw 65 rfl) (notFace_of_selects (args := #[]) (mvT hZ (own_w hw 67 rfl))) (own_w hw 67 rfl) (own_w hw 66 rfl) (own_w hw 13 rfl) (own_w hw 68 rfl) (by decide) F102 (rm11_33 l Z a0 hw [] b47 v1 h85 n0 (own_sz Y117) F119 G85_1) (hb hby at_375) rfl (by rw [hml]; rfl) rfl (lenOf pd__I_Ljava_lang_Object_ rfl) rfl (by decide) (by decide) rfl rfl (by decide) (by decide) own_Same.sz (own_fixS (S2 := [v1]) rfl (fun T118 Y118 => ?_))
              refine own_castB Y118 hx (pc' := 381) hZ hown (own_w hw 8 rfl) F119 (hb hby at_378) rfl (fun T120 Y120 => ?_)
              refine own_aload Y120 hx (pc' := 383) (hb hby at_381) rfl rfl rfl ?_
              refine own_iload Y120 hx (pc' := 385) (hb hby at_383) rfl rfl ?_
              have D122 : b9 ≠ b47 := (Nat.ne_of_lt (Nat.lt_of_lt_of_le V41.lt le47))
              have F123 := (own_A (own_A (own_A (own_A (own_A V41 K47 own_out0) K50 (own_out D122 (own_out D122 own_out0))) K61 (own_out D122 (own_out D122 own_out0))) K73 (own_out D122 (own_out D122 own_out0))) K85 (own_out D122 (own_out D122 (own_out D122 (own_out D122 (own_out D122 (own_out D122 own_out0)))))))
              refine own_aald Y120 hx (pc' := 386) (v := v1) hZ F123 (by decide) rfl rfl (hb hby at_385) rfl ?_
              refine own_static Y120 hx (pc' := 389) (W := 0) (cl' := 9) (sl' := 25) (as' := [v1, v1]) (S' := []) hZ hown (own_w hw 60 rfl) (own_w hw 61 rfl) (own_w hw 62 rfl) (own_w hw 63 rfl) (by decide) (rm10_22 l Z a0 hw [] v1 h85 n0 (own_sz Y120) F119) (hb hby at_386) rfl (by rw [hml]; rfl) rfl (lenOf pd__Ljava_lang_Integer_Ljava_lang_Integer__Z rfl) rfl (by decide) (by decide) rfl rfl (by decide) (by decide) own_Same.sz (own_fixS (S2 := [(.int (1 : Int32))]) rfl (fun T124 Y124 => ?_))
              refine own_ifNo Y124 hx (pc' := 392) (hb hby at_389) rfl (by decide) ?_
              refine own_iconst Y124 hx (pc' := 393) (x := (1 : Int32)) (hb hby at_392) rfl (by decide) ?_
              refine own_goto Y124 hx (pc' := 397) (hb hby at_393) (by decide) (by decide) ?_
              refine own_istore Y124 hx (pc' := 399) (Ls' := #[.val (.int p0), .val (.int p1), .val (.int p2), .val (.int p3), .val (.int p4), .val (.int p5), .val (.int (3 : Int32)), .val (.int (0 : Int32)), .val k0, .val k1, .val k2, .val v0, .val v1, .val v2, .val (.ref b7), .val (.ref b9), .val (.ref b47), .val (.int (1 : Int32)), .val (.int (2 : Int32)), .val (.int (3 : Int32)), .val (.int (1 : Int32))]) (hb hby at_397) rfl rfl ?_
              refine own_iload Y124 hx (pc' := 401) (hb hby at_399) rfl rfl ?_
              refine own_ifNo Y124 hx (pc' := 404) (hb hby at_401) rfl (by decide) ?_
              refine own_aload Y124 hx (pc' := 406) (hb hby at_404) rfl rfl rfl ?_
              refine own_iconst Y124 hx (pc' := 407) (x := (1 : Int32)) (hb hby at_406) rfl (by decide) ?_
              have F126 := (own_B F100 K85 (own_offS O79 (own_offS O79 (own_offS O79 (own_offS O79 (own_offS O79 (own_offS O79 own_off0)))))))
              refine own_virtual Y124 hx (pc' := 410) (W := 0) (cl' := 9) (sl' := 25) (as' := [(.int (1 : Int32))]) (S' := []) (a := b47) hZ hown (own_w hw 64 rfl) (own_w hw 65 rfl) (notFace_of_selects (args := #[]) (mvT hZ (own_w hw 67 rfl))) (own_w hw 67 rfl) (own_w hw 66 rfl) (own_w hw 13 rfl) (own_w hw 68 rfl) (by decide) F102 (rm11_34 l Z a0 hw [] b47 v2 h85 n0 (own_sz Y124) F126 G85_3) (hb hby at_407) rfl (by rw [hml]; rfl) rfl (lenOf pd__I_Ljava_lang_Object_ rfl) rfl (by decide) (by decide) rfl rfl (by decide) (by decide) own_Same.sz (own_fixS (S2 := [v2]) rfl (fun T125 Y125 => ?_))
              refine own_castB Y125 hx (pc' := 413) hZ hown (own_w hw 8 rfl) F126 (hb hby at_410) rfl (fun T127 Y127 => ?_)
              refine own_aload Y127 hx (pc' := 415) (hb hby at_413) rfl rfl rfl ?_
              refine own_iload Y127 hx (pc' := 417) (hb hby at_415) rfl rfl ?_
              refine own_aald Y127 hx (pc' := 418) (v := v2) hZ F123 (by decide) rfl rfl (hb hby at_417) rfl ?_
              refine own_static Y127 hx (pc' := 421) (W := 0) (cl' := 9) (sl' := 25) (as' := [v2, v2]) (S' := []) hZ hown (own_w hw 60 rfl) (own_w hw 61 rfl) (own_w hw 62 rfl) (own_w hw 63 rfl) (by decide) (rm10_22 l Z a0 hw [] v2 h85 n0 (own_sz Y127) F126) (hb hby at_418) rfl (by rw [hml]; rfl) rfl (lenOf pd__Ljava_lang_Integer_Ljava_lang_Integer__Z rfl) rfl (by decide) (by decide) rfl rfl (by decide) (by decide) own_Same.sz (own_fixS (S2 := [(.int (1 : Int32))]) rfl (fun T129 Y129 => ?_))
              refine own_ifNo Y129 hx (pc' := 424) (hb hby at_421) rfl (by decide) ?_
              refine own_iconst Y129 hx (pc' := 425) (x := (1 : Int32)) (hb hby at_424) rfl (by decide) ?_
              refine own_goto Y129 hx (pc' := 429) (hb hby at_425) (by decide) (by decide) ?_
              refine own_istore Y129 hx (pc' := 431) (Ls' := #[.val (.int p0), .val (.int p1), .val (.int p2), .val (.int p3), .val (.int p4), .val (.int p5), .val (.int (3 : Int32)), .val (.int (0 : Int32)), .val k0, .val k1, .val k2, .val v0, .val v1, .val v2, .val (.ref b7), .val (.ref b9), .val (.ref b47), .val (.int (1 : Int32)), .val (.int (2 : Int32)), .val (.int (3 : Int32)), .val (.int (1 : Int32))]) (hb hby at_429) rfl rfl ?_
              refine own_iload Y129 hx (pc' := 433) (hb hby at_431) rfl rfl ?_
              refine own_ifNo Y129 hx (pc' := 436) (hb hby at_433) rfl (by decide) ?_
              refine own_aload Y129 hx (pc' := 438) (hb hby at_436) rfl rfl rfl ?_
              refine own_iconst Y129 hx (pc' := 439) (x := (2 : Int32)) (hb hby at_438) rfl (by decide) ?_
              refine own_virtual Y129 hx (pc' := 442) (W := 0) (cl' := 9) (sl' := 25) (as' := [(.int (2 : Int32))]) (S' := []) (a := b47) hZ hown (own_w hw 64 rfl) (own_w hw 65 rfl) (notFace_of_selects (args := #[]) (mvT hZ (own_w hw 67 rfl))) (own_w hw 67 rfl) (own_w hw 66 rfl) (own_w hw 13 rfl) (own_w hw 68 rfl) (by decide) F102 (rm11_12 l Z a0 hw [] b47 h85 n0 (own_sz Y129) G85_5) (hb hby at_439) rfl (by rw [hml]; rfl) rfl (lenOf pd__I_Ljava_lang_Object_ rfl) rfl (by decide) (by decide) rfl rfl (by decide) (by decide) own_Same.sz (own_fixS (S2 := [.null]) rfl (fun T130 Y130 => ?_))
              refine own_castNull Y130 hx (pc' := 445) (hb hby at_442) rfl ?_
              refine own_aload Y130 hx (pc' := 447) (hb hby at_445) rfl rfl rfl ?_
              refine own_iload Y130 hx (pc' := 449) (hb hby at_447) rfl rfl ?_
              refine own_aald Y130 hx (pc' := 450) (v := .null) hZ F123 (by decide) rfl rfl (hb hby at_449) rfl ?_
              refine own_static Y130 hx (pc' := 453) (W := 0) (cl' := 9) (sl' := 25) (as' := [.null, .null]) (S' := []) hZ hown (own_w hw 60 rfl) (own_w hw 61 rfl) (own_w hw 62 rfl) (own_w hw 63 rfl) (by decide) (rm10_8 l Z a0 hw []  h85 n0 (own_sz Y130)) (hb hby at_450) rfl (by rw [hml]; rfl) rfl (lenOf pd__Ljava_lang_Integer_Ljava_lang_Integer__Z rfl) rfl (by decide) (by decide) rfl rfl (by decide) (by decide) own_Same.sz (own_fixS (S2 := [(.int (1 : Int32))]) rfl (fun T132 Y132 => ?_))
              refine own_ifNo Y132 hx (pc' := 456) (hb hby at_453) rfl (by decide) ?_
              refine own_iconst Y132 hx (pc' := 457) (x := (1 : Int32)) (hb hby at_456) rfl (by decide) ?_
              refine own_goto Y132 hx (pc' := 461) (hb hby at_457) (by decide) (by decide) ?_
              refine own_istore Y132 hx (pc' := 463) (Ls' := #[.val (.int p0), .val (.int p1), .val (.int p2), .val (.int p3), .val (.int p4), .val (.int p5), .val (.int (3 : Int32)), .val (.int (0 : Int32)), .val k0, .val k1, .val k2, .val v0, .val v1, .val v2, .val (.ref b7), .val (.ref b9), .val (.ref b47), .val (.int (1 : Int32)), .val (.int (2 : Int32)), .val (.int (3 : Int32)), .val (.int (1 : Int32))]) (hb hby at_461) rfl rfl ?_
              refine own_iload Y132 hx (pc' := 465) (hb hby at_463) rfl rfl ?_
              exact own_retN Y132 hx hlk Bd.returns rfl (by simp) (hb hby at_465) ⟨rfl, trivial⟩ (by decide) (by decide)
            by_cases qF133 : (p5 &&& (32 : Int32)) = (0 : Int32)
            ·
              refine own_ifYes Y5 hx (pc' := 120) (hb hby at_113) ((if0 _ _).trans (teq qF133).1) (by decide) (by decide) ?_
              refine own_bipush Y5 hx (pc' := 122) (x := (-3 : Int32)) (hb hby at_120) rfl (by decide) ?_
              have F135 := (own_St (own_St (own_St (own_St (own_St S_high K1 own_all0) K2 own_all0) K3 own_all0) K4 own_all0) K5 own_all0)
              have F136 := (own_St (own_St (own_St (own_St (own_St S_cache K1 own_all0) K2 own_all0) K3 own_all0) K4 own_all0) K5 own_all0)
              have F137 := (own_CacheK (own_CacheK (own_CacheK (own_CacheK (own_CacheK H_cache K1) K2) K3) K4) K5)
              refine own_static Y5 hx (pc' := 125) (W := 0) (cl' := 6) (sl' := 6) (as' := [(.int (-3 : Int32))]) (S' := []) hZ hown (own_w hw 1 rfl) (own_w hw 2 rfl) (own_w hw 3 rfl) (own_w hw 4 rfl) (by decide) (rm1_15 l Z a0 hw [] (-3 : Int32) w_cache h5 n0 (own_sz Y5) F135 F136 F137) (hb hby at_122) rfl (by rw [hml]; rfl) rfl (lenOf pd__I_Ljava_lang_Integer_ rfl) rfl (by decide) (by decide) rfl rfl (by decide) (by decide) own_PV_sz (fun T134 h134 v134 Y134 R134 => ?_)
              obtain ⟨b134_0, rfl, K134, E134, F134⟩ := R134
              show own_Fin p e below _ (T134.setTop (mkF m 125 #[.val (.int p0), .val (.int p1), .val (.int p2), .val (.int p3), .val (.int p4), .val (.int p5), .val (.int (3 : Int32)), .val (.int (0 : Int32)), .val k0, .val k1, .val k2, .val v0, .val v1, .unset, .unset, .unset, .unset, .unset, .unset, .unset, .unset] [(.ref b134_0)]))
              exact J125 _ _ _ Y134 K134 (Or.inr ⟨b134_0, _, rfl, E134, F134⟩)
            ·
              refine own_ifNo Y5 hx (pc' := 116) (hb hby at_113) rfl ((if0 _ _).trans (feq qF133).1) ?_
              refine own_aconstNull Y5 hx (pc' := 117) (hb hby at_116) rfl ?_
              refine own_goto Y5 hx (pc' := 125) (hb hby at_117) (by decide) (by decide) ?_
              exact J125 _ _ .null (own_more Y5 (by decide) (by decide)) (own_Kp.refl _ _) (Or.inl rfl)
          by_cases qF138 : (p5 &&& (16 : Int32)) = (0 : Int32)
          ·
            refine own_ifYes Y4 hx (pc' := 101) (hb hby at_94) ((if0 _ _).trans (teq qF138).1) (by decide) (by decide) ?_
            refine own_bipush Y4 hx (pc' := 103) (x := (-2 : Int32)) (hb hby at_101) rfl (by decide) ?_
            have F140 := (own_St (own_St (own_St (own_St S_high K1 own_all0) K2 own_all0) K3 own_all0) K4 own_all0)
            have F141 := (own_St (own_St (own_St (own_St S_cache K1 own_all0) K2 own_all0) K3 own_all0) K4 own_all0)
            have F142 := (own_CacheK (own_CacheK (own_CacheK (own_CacheK H_cache K1) K2) K3) K4)
            refine own_static Y4 hx (pc' := 106) (W := 0) (cl' := 5) (sl' := 5) (as' := [(.int (-2 : Int32))]) (S' := []) hZ hown (own_w hw 1 rfl) (own_w hw 2 rfl) (own_w hw 3 rfl) (own_w hw 4 rfl) (by decide) (rm1_15 l Z a0 hw [] (-2 : Int32) w_cache h4 n0 (own_sz Y4) F140 F141 F142) (hb hby at_103) rfl (by rw [hml]; rfl) rfl (lenOf pd__I_Ljava_lang_Integer_ rfl) rfl (by decide) (by decide) rfl rfl (by decide) (by decide) own_PV_sz (fun T139 h139 v139 Y139 R139 => ?_)
            obtain ⟨b139_0, rfl, K139, E139, F139⟩ := R139
            show own_Fin p e below _ (T139.setTop (mkF m 106 #[.val (.int p0), .val (.int p1), .val (.int p2), .val (.int p3), .val (.int p4), .val (.int p5), .val (.int (3 : Int32)), .val (.int (0 : Int32)), .val k0, .val k1, .val k2, .val v0, .unset, .unset, .unset, .unset, .unset, .unset, .unset, .unset, .unset] [(.ref b139_0)]))
            exact J106 _ _ _ Y139 K139 (Or.inr ⟨b139_0, _, rfl, E139, F139⟩)
          ·
            refine own_ifNo Y4 hx (pc' := 97) (hb hby at_94) rfl ((if0 _ _).trans (feq qF138).1) ?_
            refine own_aconstNull Y4 hx (pc' := 98) (hb hby at_97) rfl ?_
            refine own_goto Y4 hx (pc' := 106) (hb hby at_98) (by decide) (by decide) ?_
            exact J106 _ _ .null (own_more Y4 (by decide) (by decide)) (own_Kp.refl _ _) (Or.inl rfl)
        by_cases qF143 : (p5 &&& (8 : Int32)) = (0 : Int32)
        ·
          refine own_ifYes Y3 hx (pc' := 83) (hb hby at_76) ((if0 _ _).trans (teq qF143).1) (by decide) (by decide) ?_
          refine own_iconst Y3 hx (pc' := 84) (x := (-1 : Int32)) (hb hby at_83) rfl (by decide) ?_
          have F145 := (own_St (own_St (own_St S_high K1 own_all0) K2 own_all0) K3 own_all0)
          have F146 := (own_St (own_St (own_St S_cache K1 own_all0) K2 own_all0) K3 own_all0)
          have F147 := (own_CacheK (own_CacheK (own_CacheK H_cache K1) K2) K3)
          refine own_static Y3 hx (pc' := 87) (W := 0) (cl' := 4) (sl' := 4) (as' := [(.int (-1 : Int32))]) (S' := []) hZ hown (own_w hw 1 rfl) (own_w hw 2 rfl) (own_w hw 3 rfl) (own_w hw 4 rfl) (by decide) (rm1_15 l Z a0 hw [] (-1 : Int32) w_cache h3 n0 (own_sz Y3) F145 F146 F147) (hb hby at_84) rfl (by rw [hml]; rfl) rfl (lenOf pd__I_Ljava_lang_Integer_ rfl) rfl (by decide) (by decide) rfl rfl (by decide) (by decide) own_PV_sz (fun T144 h144 v144 Y144 R144 => ?_)
          obtain ⟨b144_0, rfl, K144, E144, F144⟩ := R144
          show own_Fin p e below _ (T144.setTop (mkF m 87 #[.val (.int p0), .val (.int p1), .val (.int p2), .val (.int p3), .val (.int p4), .val (.int p5), .val (.int (3 : Int32)), .val (.int (0 : Int32)), .val k0, .val k1, .val k2, .unset, .unset, .unset, .unset, .unset, .unset, .unset, .unset, .unset, .unset] [(.ref b144_0)]))
          exact J87 _ _ _ Y144 K144 (Or.inr ⟨b144_0, _, rfl, E144, F144⟩)
        ·
          refine own_ifNo Y3 hx (pc' := 79) (hb hby at_76) rfl ((if0 _ _).trans (feq qF143).1) ?_
          refine own_aconstNull Y3 hx (pc' := 80) (hb hby at_79) rfl ?_
          refine own_goto Y3 hx (pc' := 87) (hb hby at_80) (by decide) (by decide) ?_
          exact J87 _ _ .null (own_more Y3 (by decide) (by decide)) (own_Kp.refl _ _) (Or.inl rfl)
      by_cases qF148 : (p5 &&& (4 : Int32)) = (0 : Int32)
      ·
        refine own_ifYes Y2 hx (pc' := 65) (hb hby at_58) ((if0 _ _).trans (teq qF148).1) (by decide) (by decide) ?_
        refine own_iloadN Y2 hx (pc' := 66) (hb hby at_65) rfl rfl ?_
        have F150 := (own_St (own_St S_high K1 own_all0) K2 own_all0)
        have F151 := (own_St (own_St S_cache K1 own_all0) K2 own_all0)
        have F152 := (own_CacheK (own_CacheK H_cache K1) K2)
        refine own_static Y2 hx (pc' := 69) (W := 0) (cl' := 3) (sl' := 3) (as' := [(.int p2)]) (S' := []) hZ hown (own_w hw 1 rfl) (own_w hw 2 rfl) (own_w hw 3 rfl) (own_w hw 4 rfl) (by decide) (rm1_15 l Z a0 hw [] p2 w_cache h2 n0 (own_sz Y2) F150 F151 F152) (hb hby at_66) rfl (by rw [hml]; rfl) rfl (lenOf pd__I_Ljava_lang_Integer_ rfl) rfl (by decide) (by decide) rfl rfl (by decide) (by decide) own_PV_sz (fun T149 h149 v149 Y149 R149 => ?_)
        obtain ⟨b149_0, rfl, K149, E149, F149⟩ := R149
        show own_Fin p e below _ (T149.setTop (mkF m 69 #[.val (.int p0), .val (.int p1), .val (.int p2), .val (.int p3), .val (.int p4), .val (.int p5), .val (.int (3 : Int32)), .val (.int (0 : Int32)), .val k0, .val k1, .unset, .unset, .unset, .unset, .unset, .unset, .unset, .unset, .unset, .unset, .unset] [(.ref b149_0)]))
        exact J69 _ _ _ Y149 K149 (Or.inr ⟨b149_0, _, rfl, E149, F149⟩)
      ·
        refine own_ifNo Y2 hx (pc' := 61) (hb hby at_58) rfl ((if0 _ _).trans (feq qF148).1) ?_
        refine own_aconstNull Y2 hx (pc' := 62) (hb hby at_61) rfl ?_
        refine own_goto Y2 hx (pc' := 69) (hb hby at_62) (by decide) (by decide) ?_
        exact J69 _ _ .null (own_more Y2 (by decide) (by decide)) (own_Kp.refl _ _) (Or.inl rfl)
    by_cases qF153 : (p5 &&& (2 : Int32)) = (0 : Int32)
    ·
      refine own_ifYes Y1 hx (pc' := 48) (hb hby at_41) ((if0 _ _).trans (teq qF153).1) (by decide) (by decide) ?_
      refine own_iloadN Y1 hx (pc' := 49) (hb hby at_48) rfl rfl ?_
      have F155 := (own_St S_high K1 own_all0)
      have F156 := (own_St S_cache K1 own_all0)
      have F157 := (own_CacheK H_cache K1)
      refine own_static Y1 hx (pc' := 52) (W := 0) (cl' := 2) (sl' := 2) (as' := [(.int p1)]) (S' := []) hZ hown (own_w hw 1 rfl) (own_w hw 2 rfl) (own_w hw 3 rfl) (own_w hw 4 rfl) (by decide) (rm1_15 l Z a0 hw [] p1 w_cache h1 n0 (own_sz Y1) F155 F156 F157) (hb hby at_49) rfl (by rw [hml]; rfl) rfl (lenOf pd__I_Ljava_lang_Integer_ rfl) rfl (by decide) (by decide) rfl rfl (by decide) (by decide) own_PV_sz (fun T154 h154 v154 Y154 R154 => ?_)
      obtain ⟨b154_0, rfl, K154, E154, F154⟩ := R154
      show own_Fin p e below _ (T154.setTop (mkF m 52 #[.val (.int p0), .val (.int p1), .val (.int p2), .val (.int p3), .val (.int p4), .val (.int p5), .val (.int (3 : Int32)), .val (.int (0 : Int32)), .val k0, .unset, .unset, .unset, .unset, .unset, .unset, .unset, .unset, .unset, .unset, .unset, .unset] [(.ref b154_0)]))
      exact J52 _ _ _ Y154 K154 (Or.inr ⟨b154_0, _, rfl, E154, F154⟩)
    ·
      refine own_ifNo Y1 hx (pc' := 44) (hb hby at_41) rfl ((if0 _ _).trans (feq qF153).1) ?_
      refine own_aconstNull Y1 hx (pc' := 45) (hb hby at_44) rfl ?_
      refine own_goto Y1 hx (pc' := 52) (hb hby at_45) (by decide) (by decide) ?_
      exact J52 _ _ .null (own_more Y1 (by decide) (by decide)) (own_Kp.refl _ _) (Or.inl rfl)
  by_cases qF158 : (p5 &&& (1 : Int32)) = (0 : Int32)
  ·
    refine own_ifYes Y0 hx (pc' := 31) (hb hby at_24) ((if0 _ _).trans (teq qF158).1) (by decide) (by decide) ?_
    refine own_iloadN Y0 hx (pc' := 32) (hb hby at_31) rfl rfl ?_
    refine own_static Y0 hx (pc' := 35) (W := 0) (cl' := 1) (sl' := 1) (as' := [(.int p0)]) (S' := []) hZ hown (own_w hw 1 rfl) (own_w hw 2 rfl) (own_w hw 3 rfl) (own_w hw 4 rfl) (by decide) (rm1_15 l Z a0 hw [] p0 w_cache h0 n0 (own_sz Y0) S_high S_cache H_cache) (hb hby at_32) rfl (by rw [hml]; rfl) rfl (lenOf pd__I_Ljava_lang_Integer_ rfl) rfl (by decide) (by decide) rfl rfl (by decide) (by decide) own_PV_sz (fun T159 h159 v159 Y159 R159 => ?_)
    obtain ⟨b159_0, rfl, K159, E159, F159⟩ := R159
    show own_Fin p e below _ (T159.setTop (mkF m 35 #[.val (.int p0), .val (.int p1), .val (.int p2), .val (.int p3), .val (.int p4), .val (.int p5), .val (.int (3 : Int32)), .val (.int (0 : Int32)), .unset, .unset, .unset, .unset, .unset, .unset, .unset, .unset, .unset, .unset, .unset, .unset, .unset] [(.ref b159_0)]))
    exact J35 _ _ _ Y159 K159 (Or.inr ⟨b159_0, _, rfl, E159, F159⟩)
  ·
    refine own_ifNo Y0 hx (pc' := 27) (hb hby at_24) rfl ((if0 _ _).trans (feq qF158).1) ?_
    refine own_aconstNull Y0 hx (pc' := 28) (hb hby at_27) rfl ?_
    refine own_goto Y0 hx (pc' := 35) (hb hby at_28) (by decide) (by decide) ?_
    exact J35 _ _ .null (own_more Y0 (by decide) (by decide)) (own_Kp.refl _ _) (Or.inl rfl)
def P6_35 (Z : State) (a1 : Addr) (a2 : Addr) (v3 : Value) (v4 : Value) (v5 : Value) (v6 : Value) (h0 : Heap) (h : Heap) : Prop := own_Kp h0 h [(a1, Jvm.RoadKit.slotOf Z zs0 "key1" zs1), (a1, Jvm.RoadKit.slotOf Z zs0 "value1" zs1), (a1, Jvm.RoadKit.slotOf Z zs0 "key2" zs1), (a1, Jvm.RoadKit.slotOf Z zs0 "value2" zs1)] ∧ Fld Z h a1 zs0 "key1" zs1 (.ref (own_sa a2 v3)) ∧ Fld Z h a1 zs0 "value1" zs1 v5 ∧ Fld Z h a1 zs0 "key2" zs1 .null ∧ Fld Z h a1 zs0 "value2" zs1 .null
theorem P6_35_sz {Z : State} {a1 : Addr} {a2 : Addr} {v3 : Value} {v4 : Value} {v5 : Value} {v6 : Value} {h0 : Heap} : ∀ v h', (own_R none (P6_35 Z a1 a2 v3 v4 v5 v6 h0)) v h' → Array.size h0 ≤ Array.size h' := by
  intro v h' q
  obtain ⟨-, K, -⟩ := q
  exact K.1
set_option maxRecDepth 65536 in
set_option maxHeartbeats 40000000 in
theorem rm6_35 (l : Launch) (Z : State) (a0 : Array Value) (hw : ∀ d ∈ tables_1, d.before a0 Z = true) (ws : List Jvm.Cond) (a1 : Addr) (a2 : Addr) (v3 : Value) (v4 : Value) (v5 : Value) (v6 : Value) (h0 : Heap) (n0 : Nat) (Z0 : n0 ≤ Array.size h0) (P0 : own_Box Z h0 v3) (P1 : Fld Z h0 a1 zs0 "key2" zs1 (.ref (own_sa a2 v3))) (P2 : own_Box Z h0 v4) (P3 : Fld Z h0 a1 zs0 "key1" zs1 (.ref (own_sa a2 v4))) (P4 : Exa Z h0 a1 zs0) (P5 : n0 ≤ a1) (P6 : own_Box Z h0 v5) (P7 : Fld Z h0 a1 zs0 "value2" zs1 v5) (P8 : own_Box Z h0 v6) (P9 : Fld Z h0 a1 zs0 "value1" zs1 v6) :
    MetFree l (⟨zs0, "removeEntry", "(I)V"⟩ : MethodName) (head1 (Jvm.Cond.code (⟨zs0, "removeEntry", "(I)V"⟩ : MethodName) prog_25_method_5_code 2 none :: ws) ({ frames := 0, cells := 0, slots := 0, locals := 0 } : Room)) (fun a U => a = #[(.ref a1), (.int (1 : Int32))] ∧ Z.Warmed39 U.vm ∧ U.heap = h0) (fun _ _ _ _ _ => True) (fun _ U o U' => ∃ v L, o = .returned v ∧ own_QQ n0 (own_R none (P6_35 Z a1 a2 v3 v4 v5 v6 h0)) v U'.heap L ∧ FrameEnd U o U' L ({ frames := 0, cells := 0, slots := 0, locals := 0 } : Room).cells ({ frames := 0, cells := 0, slots := 0, locals := 0 } : Room).slots) := by
  refine MetFree.of_bodySF (plainFor_of_name pn_com_example_napkintree_napkintree_balancing_MultiwayTree_Node) hisR ?_
  intro p e s m args below meth c s₁ Bd hml0 hP hK
  obtain ⟨rfl, hZ, hh⟩ := hP
  have hx := Bd.exec
  have hby := Bd.bytes
  have hml : c.maxLocals = 2 := hml0
  have hown : s.vm.findClass zs0 = some m.cls := findClass_of_methodNamed Bd.named
  have hnm := (name_of_methodNamed Bd.named Bd.method).1
  have hlk : meth.locks = false := BodyLoose.notSynchronized Bd
  have Y0 : own_S p l e ({ frames := 0, cells := 0, slots := 0, locals := 0 } : Room) s m #[(.ref a1), (.int (1 : Int32))] below meth c n0 s₁ h0 0 0 := ⟨[], Stand.of_body Bd, Fr.nil n0, by rw [← hh, Bd.state]; rfl, Z0⟩
  refine (?_ : own_Fin p e below _ _)
  refine own_st (fun t k => castTop (ef_6_RI m a1 (1 : Int32)) k) ?_
  refine own_iloadN Y0 hx (pc' := 1) (hb hby d6_0) rfl rfl ?_
  refine own_ifYes Y0 hx (pc' := 20) (hb hby d6_1) (by decide) (by decide) (by decide) ?_
  refine own_iloadN Y0 hx (pc' := 21) (hb hby d6_20) rfl rfl ?_
  refine own_iconst Y0 hx (pc' := 22) (x := (1 : Int32)) (hb hby d6_21) rfl (by decide) ?_
  refine own_icmpNo Y0 hx (pc' := 25) (hb hby d6_22) rfl (by decide) ?_
  refine own_aloadN Y0 hx (pc' := 26) (hb hby d6_25) rfl rfl rfl ?_
  refine own_aloadN Y0 hx (pc' := 27) (hb hby d6_26) rfl rfl rfl ?_
  refine own_getF Y0 hx (pc' := 30) (v := (.ref (own_sa a2 v3))) hZ hown (host := "") (Or.inl (own_w hw 43 rfl)) Via.refl P1 (hb hby d6_27) rfl (fun T1 Y1 => ?_)
  refine own_putF Y1 hx (pc' := 33) hZ hown (host := "") (Or.inl (own_w hw 34 rfl)) Via.refl P3 P4 (Or.inl (own_w hw 35 rfl)) (own_w hw 12 rfl) (ty := (.object zs2)) (by decide) rfl rfl P5 (hb hby d6_30) rfl (fun T2 h2 Y2 K2 F2 => ?_)
  refine own_aloadN Y2 hx (pc' := 34) (hb hby d6_33) rfl rfl rfl ?_
  refine own_aloadN Y2 hx (pc' := 35) (hb hby d6_34) rfl rfl rfl ?_
  have F3 := (own_F (v := v5) P7 K2 (own_nr (sl_10 hw) own_nin0))
  refine own_getF Y2 hx (pc' := 38) (v := v5) hZ hown (host := "") (Or.inl (own_w hw 45 rfl)) Via.refl F3 (hb hby d6_35) rfl (fun T4 Y4 => ?_)
  have F5 := (own_F (v := v6) P9 K2 (own_nr (sl_11 hw) own_nin0))
  have F6 := (own_E P4 K2)
  refine own_putF Y4 hx (pc' := 41) hZ hown (host := "") (Or.inl (own_w hw 36 rfl)) Via.refl F5 F6 (Or.inl (own_w hw 37 rfl)) (own_w hw 12 rfl) (ty := (.object zs2)) (by decide) (own_narR rfl (own_BoxRef P6)) (own_fitR rfl (own_BoxRef P6)) P5 (hb hby d6_38) rfl (fun T7 h7 Y7 K7 F7 => ?_)
  refine own_aloadN Y7 hx (pc' := 42) (hb hby d6_41) rfl rfl rfl ?_
  refine own_aconstNull Y7 hx (pc' := 43) (hb hby d6_42) rfl ?_
  have F8 := (own_F (v := (.ref (own_sa a2 v3))) (own_F (v := (.ref (own_sa a2 v3))) P1 K2 (own_nr (sl_12 hw) own_nin0)) K7 (own_nr (sl_13 hw) own_nin0))
  have F9 := (own_E F6 K7)
  refine own_putF Y7 hx (pc' := 46) hZ hown (host := "") (Or.inl (own_w hw 43 rfl)) Via.refl F8 F9 (Or.inl (own_w hw 44 rfl)) (own_w hw 12 rfl) (ty := (.object zs2)) (by decide) rfl rfl P5 (hb hby d6_43) rfl (fun T10 h10 Y10 K10 F10 => ?_)
  refine own_aloadN Y10 hx (pc' := 47) (hb hby d6_46) rfl rfl rfl ?_
  refine own_aconstNull Y10 hx (pc' := 48) (hb hby d6_47) rfl ?_
  have F11 := (own_F (v := v5) (own_F (v := v5) F3 K7 (own_nr (sl_14 hw) own_nin0)) K10 (own_nr (sl_15 hw) own_nin0))
  have F12 := (own_E F9 K10)
  refine own_putF Y10 hx (pc' := 51) hZ hown (host := "") (Or.inl (own_w hw 45 rfl)) Via.refl F11 F12 (Or.inl (own_w hw 46 rfl)) (own_w hw 12 rfl) (ty := (.object zs2)) (by decide) rfl rfl P5 (hb hby d6_48) rfl (fun T13 h13 Y13 K13 F13 => ?_)
  have KC14 : own_Kp h0 h13 [(a1, Jvm.RoadKit.slotOf Z zs0 "key1" zs1), (a1, Jvm.RoadKit.slotOf Z zs0 "value1" zs1), (a1, Jvm.RoadKit.slotOf Z zs0 "key2" zs1), (a1, Jvm.RoadKit.slotOf Z zs0 "value2" zs1)] := (((((own_Kp.refl h0 [(a1, Jvm.RoadKit.slotOf Z zs0 "key1" zs1), (a1, Jvm.RoadKit.slotOf Z zs0 "value1" zs1), (a1, Jvm.RoadKit.slotOf Z zs0 "key2" zs1), (a1, Jvm.RoadKit.slotOf Z zs0 "value2" zs1)]).trans K2 (own_allS (Or.inl (List.mem_of_getElem? (i := 0) rfl)) own_all0)).trans K7 (own_allS (Or.inl (List.mem_of_getElem? (i := 1) rfl)) own_all0)).trans K10 (own_allS (Or.inl (List.mem_of_getElem? (i := 2) rfl)) own_all0)).trans K13 (own_allS (Or.inl (List.mem_of_getElem? (i := 3) rfl)) own_all0))
  have F15 := (own_F (v := (.ref (own_sa a2 v3))) (own_F (v := (.ref (own_sa a2 v3))) (own_F (v := (.ref (own_sa a2 v3))) F2 K7 (own_nr (sl_24 hw) own_nin0)) K10 (own_nr (sl_25 hw) own_nin0)) K13 (own_nr (sl_26 hw) own_nin0))
  have F16 := (own_F (v := v5) (own_F (v := v5) F7 K10 (own_nr (sl_27 hw) own_nin0)) K13 (own_nr (sl_28 hw) own_nin0))
  have F17 := (own_F (v := .null) F10 K13 (own_nr (sl_29 hw) own_nin0))
  exact own_ret0 Y13 hx hlk Bd.returns (hb hby d6_51) ⟨rfl, KC14, F15, F16, F17, F13⟩ (by decide) (by decide)
set_option maxRecDepth 65536 in
set_option maxHeartbeats 40000000 in
theorem rm7_36 (l : Launch) (Z : State) (a0 : Array Value) (hw : ∀ d ∈ tables_1, d.before a0 Z = true) (ws : List Jvm.Cond) (a1 : Addr) (a2 : Addr) (v3 : Value) (v4 : Value) (h0 : Heap) (n0 : Nat) (Z0 : n0 ≤ Array.size h0) (P0 : own_Box Z h0 v3) (P1 : Fld Z h0 a1 zs0 "key0" zs1 (.ref (own_sa a2 v3))) (P2 : own_Box Z h0 v4) (P3 : Fld Z h0 a1 zs0 "key1" zs1 (.ref (own_sa a2 v4))) (P4 : Fld Z h0 a1 zs0 "key2" zs1 .null) :
    MetFree l (⟨zs0, "keyCount", "()I"⟩ : MethodName) (head1 (Jvm.Cond.code (⟨zs0, "keyCount", "()I"⟩ : MethodName) prog_25_method_16_code 1 (some .int) :: ws) ({ frames := 0, cells := 0, slots := 0, locals := 0 } : Room)) (fun a U => a = #[(.ref a1)] ∧ Z.Warmed39 U.vm ∧ U.heap = h0) (fun _ _ _ _ _ => True) (fun _ U o U' => ∃ v L, o = .returned v ∧ own_QQ n0 (own_Same (some (.int (2 : Int32))) h0) v U'.heap L ∧ FrameEnd U o U' L ({ frames := 0, cells := 0, slots := 0, locals := 0 } : Room).cells ({ frames := 0, cells := 0, slots := 0, locals := 0 } : Room).slots) := by
  refine MetFree.of_bodySF (plainFor_of_name pn_com_example_napkintree_napkintree_balancing_MultiwayTree_Node) hisR ?_
  intro p e s m args below meth c s₁ Bd hml0 hP hK
  obtain ⟨rfl, hZ, hh⟩ := hP
  have hx := Bd.exec
  have hby := Bd.bytes
  have hml : c.maxLocals = 1 := hml0
  have hown : s.vm.findClass zs0 = some m.cls := findClass_of_methodNamed Bd.named
  have hnm := (name_of_methodNamed Bd.named Bd.method).1
  have hlk : meth.locks = false := BodyLoose.notSynchronized Bd
  have Y0 : own_S p l e ({ frames := 0, cells := 0, slots := 0, locals := 0 } : Room) s m #[(.ref a1)] below meth c n0 s₁ h0 0 0 := ⟨[], Stand.of_body Bd, Fr.nil n0, by rw [← hh, Bd.state]; rfl, Z0⟩
  refine (?_ : own_Fin p e below _ _)
  refine own_st (fun t k => castTop (ef_7_R m a1) k) ?_
  refine own_aloadN Y0 hx (pc' := 1) (hb hby d7_0) rfl rfl rfl ?_
  refine own_getF Y0 hx (pc' := 4) (v := (.ref (own_sa a2 v3))) hZ hown (host := "") (Or.inl (own_w hw 30 rfl)) Via.refl P1 (hb hby d7_1) rfl (fun T1 Y1 => ?_)
  refine own_ifnonnullYes Y1 hx (pc' := 11) (hb hby d7_4) (by decide) (by decide) ?_
  refine own_aloadN Y1 hx (pc' := 12) (hb hby d7_11) rfl rfl rfl ?_
  refine own_getF Y1 hx (pc' := 15) (v := (.ref (own_sa a2 v4))) hZ hown (host := "") (Or.inl (own_w hw 34 rfl)) Via.refl P3 (hb hby d7_12) rfl (fun T2 Y2 => ?_)
  refine own_ifnonnullYes Y2 hx (pc' := 22) (hb hby d7_15) (by decide) (by decide) ?_
  refine own_aloadN Y2 hx (pc' := 23) (hb hby d7_22) rfl rfl rfl ?_
  refine own_getF Y2 hx (pc' := 26) (v := .null) hZ hown (host := "") (Or.inl (own_w hw 43 rfl)) Via.refl P4 (hb hby d7_23) rfl (fun T3 Y3 => ?_)
  refine own_ifnonnullNo Y3 hx (pc' := 29) (hb hby d7_26) rfl ?_
  refine own_iconst Y3 hx (pc' := 30) (x := (2 : Int32)) (hb hby d7_29) rfl (by decide) ?_
  refine own_goto Y3 hx (pc' := 34) (hb hby d7_30) (by decide) (by decide) ?_
  exact own_retN Y3 hx hlk Bd.returns rfl (by simp) (hb hby d7_34) ⟨rfl, rfl⟩ (by decide) (by decide)
set_option maxRecDepth 65536 in
set_option maxHeartbeats 40000000 in
theorem rm8_37 (l : Launch) (Z : State) (a0 : Array Value) (hw : ∀ d ∈ tables_1, d.before a0 Z = true) (ws : List Jvm.Cond) (a1 : Addr) (a2 : Addr) (v3 : Value) (h0 : Heap) (n0 : Nat) (Z0 : n0 ≤ Array.size h0) (P0 : own_Box Z h0 v3) (P1 : Fld Z h0 a1 zs0 "key0" zs1 (.ref (own_sa a2 v3))) (P2 : Exa Z h0 a2 zs2) (P3 : Sta Z h0 zs0 "NULL_KEY" zs1 (.ref a2)) :
    MetFree l (⟨zs0, "key", zs6⟩ : MethodName) (head1 (Jvm.Cond.code (⟨zs0, "key", zs6⟩ : MethodName) prog_25_method_17_code 3 (some (.object zs2)) :: ws) ({ frames := 1, cells := 0, slots := 0, locals := 12 } : Room)) (fun a U => a = #[(.ref a1), (.int (0 : Int32))] ∧ Z.Warmed39 U.vm ∧ U.heap = h0) (fun _ _ _ _ _ => True) (fun _ U o U' => ∃ v L, o = .returned v ∧ own_QQ n0 (own_Same (some v3) h0) v U'.heap L ∧ FrameEnd U o U' L ({ frames := 1, cells := 0, slots := 0, locals := 12 } : Room).cells ({ frames := 1, cells := 0, slots := 0, locals := 12 } : Room).slots) := by
  refine MetFree.of_bodySF (plainFor_of_name pn_com_example_napkintree_napkintree_balancing_MultiwayTree_Node) hisR ?_
  intro p e s m args below meth c s₁ Bd hml0 hP hK
  obtain ⟨rfl, hZ, hh⟩ := hP
  have hx := Bd.exec
  have hby := Bd.bytes
  have hml : c.maxLocals = 3 := hml0
  have hown : s.vm.findClass zs0 = some m.cls := findClass_of_methodNamed Bd.named
  have hnm := (name_of_methodNamed Bd.named Bd.method).1
  have hlk : meth.locks = false := BodyLoose.notSynchronized Bd
  have Y0 : own_S p l e ({ frames := 1, cells := 0, slots := 0, locals := 12 } : Room) s m #[(.ref a1), (.int (0 : Int32))] below meth c n0 s₁ h0 0 0 := ⟨[], Stand.of_body Bd, Fr.nil n0, by rw [← hh, Bd.state]; rfl, Z0⟩
  refine (?_ : own_Fin p e below _ _)
  refine own_st (fun t k => castTop (ef_8_RI m a1 (0 : Int32)) k) ?_
  refine own_iloadN Y0 hx (pc' := 1) (hb hby d8_0) rfl rfl ?_
  refine own_tswIn Y0 hx (pc' := 28) (o := 27) (hb hby d8_1) (by decide) (by decide) (by decide) (by decide) ?_
  refine own_aloadN Y0 hx (pc' := 29) (hb hby d8_28) rfl rfl rfl ?_
  refine own_getF Y0 hx (pc' := 32) (v := (.ref (own_sa a2 v3))) hZ hown (host := "") (Or.inl (own_w hw 30 rfl)) Via.refl P1 (hb hby d8_29) rfl (fun T1 Y1 => ?_)
  refine own_goto Y1 hx (pc' := 58) (hb hby d8_32) (by decide) (by decide) ?_
  refine own_astoreN Y1 hx (pc' := 59) (Ls' := #[.val (.ref a1), .val (.int (0 : Int32)), .val (.ref (own_sa a2 v3))]) (hb hby d8_58) rfl rfl rfl ?_
  refine own_aloadN Y1 hx (pc' := 60) (hb hby d8_59) rfl rfl rfl ?_
  refine own_static Y1 hx (pc' := 63) (W := 0) (cl' := 0) (sl' := 0) (as' := [(.ref (own_sa a2 v3))]) (S' := []) hZ hown (own_w hw 57 rfl) (own_w hw 58 rfl) (own_w hw 13 rfl) (own_w hw 59 rfl) (by decide) (rm9_19 l Z a0 hw [] a2 v3 h0 n0 (own_sz Y1) P0 P2 P3) (hb hby d8_60) rfl (by rw [hml]; rfl) rfl (lenOf pd__Ljava_lang_Object__Ljava_lang_Object_ rfl) rfl (by decide) (by decide) rfl rfl (by decide) (by decide) own_Same.sz (own_fixS (S2 := [v3]) rfl (fun T2 Y2 => ?_))
  exact own_retA Y2 hx hlk Bd.returns (own_narR rfl (own_BoxRef P0)) rfl (own_BoxRef P0) (hb hby d8_63) ⟨rfl, rfl⟩ (by decide) (by decide)
set_option maxRecDepth 65536 in
set_option maxHeartbeats 40000000 in
theorem rm8_38 (l : Launch) (Z : State) (a0 : Array Value) (hw : ∀ d ∈ tables_1, d.before a0 Z = true) (ws : List Jvm.Cond) (a1 : Addr) (a2 : Addr) (v3 : Value) (h0 : Heap) (n0 : Nat) (Z0 : n0 ≤ Array.size h0) (P0 : own_Box Z h0 v3) (P1 : Fld Z h0 a1 zs0 "key1" zs1 (.ref (own_sa a2 v3))) (P2 : Exa Z h0 a2 zs2) (P3 : Sta Z h0 zs0 "NULL_KEY" zs1 (.ref a2)) :
    MetFree l (⟨zs0, "key", zs6⟩ : MethodName) (head1 (Jvm.Cond.code (⟨zs0, "key", zs6⟩ : MethodName) prog_25_method_17_code 3 (some (.object zs2)) :: ws) ({ frames := 1, cells := 0, slots := 0, locals := 12 } : Room)) (fun a U => a = #[(.ref a1), (.int (1 : Int32))] ∧ Z.Warmed39 U.vm ∧ U.heap = h0) (fun _ _ _ _ _ => True) (fun _ U o U' => ∃ v L, o = .returned v ∧ own_QQ n0 (own_Same (some v3) h0) v U'.heap L ∧ FrameEnd U o U' L ({ frames := 1, cells := 0, slots := 0, locals := 12 } : Room).cells ({ frames := 1, cells := 0, slots := 0, locals := 12 } : Room).slots) := by
  refine MetFree.of_bodySF (plainFor_of_name pn_com_example_napkintree_napkintree_balancing_MultiwayTree_Node) hisR ?_
  intro p e s m args below meth c s₁ Bd hml0 hP hK
  obtain ⟨rfl, hZ, hh⟩ := hP
  have hx := Bd.exec
  have hby := Bd.bytes
  have hml : c.maxLocals = 3 := hml0
  have hown : s.vm.findClass zs0 = some m.cls := findClass_of_methodNamed Bd.named
  have hnm := (name_of_methodNamed Bd.named Bd.method).1
  have hlk : meth.locks = false := BodyLoose.notSynchronized Bd
  have Y0 : own_S p l e ({ frames := 1, cells := 0, slots := 0, locals := 12 } : Room) s m #[(.ref a1), (.int (1 : Int32))] below meth c n0 s₁ h0 0 0 := ⟨[], Stand.of_body Bd, Fr.nil n0, by rw [← hh, Bd.state]; rfl, Z0⟩
  refine (?_ : own_Fin p e below _ _)
  refine own_st (fun t k => castTop (ef_8_RI m a1 (1 : Int32)) k) ?_
  refine own_iloadN Y0 hx (pc' := 1) (hb hby d8_0) rfl rfl ?_
  refine own_tswIn Y0 hx (pc' := 35) (o := 34) (hb hby d8_1) (by decide) (by decide) (by decide) (by decide) ?_
  refine own_aloadN Y0 hx (pc' := 36) (hb hby d8_35) rfl rfl rfl ?_
  refine own_getF Y0 hx (pc' := 39) (v := (.ref (own_sa a2 v3))) hZ hown (host := "") (Or.inl (own_w hw 34 rfl)) Via.refl P1 (hb hby d8_36) rfl (fun T1 Y1 => ?_)
  refine own_goto Y1 hx (pc' := 58) (hb hby d8_39) (by decide) (by decide) ?_
  refine own_astoreN Y1 hx (pc' := 59) (Ls' := #[.val (.ref a1), .val (.int (1 : Int32)), .val (.ref (own_sa a2 v3))]) (hb hby d8_58) rfl rfl rfl ?_
  refine own_aloadN Y1 hx (pc' := 60) (hb hby d8_59) rfl rfl rfl ?_
  refine own_static Y1 hx (pc' := 63) (W := 0) (cl' := 0) (sl' := 0) (as' := [(.ref (own_sa a2 v3))]) (S' := []) hZ hown (own_w hw 57 rfl) (own_w hw 58 rfl) (own_w hw 13 rfl) (own_w hw 59 rfl) (by decide) (rm9_19 l Z a0 hw [] a2 v3 h0 n0 (own_sz Y1) P0 P2 P3) (hb hby d8_60) rfl (by rw [hml]; rfl) rfl (lenOf pd__Ljava_lang_Object__Ljava_lang_Object_ rfl) rfl (by decide) (by decide) rfl rfl (by decide) (by decide) own_Same.sz (own_fixS (S2 := [v3]) rfl (fun T2 Y2 => ?_))
  exact own_retA Y2 hx hlk Bd.returns (own_narR rfl (own_BoxRef P0)) rfl (own_BoxRef P0) (hb hby d8_63) ⟨rfl, rfl⟩ (by decide) (by decide)
set_option maxRecDepth 65536 in
set_option maxHeartbeats 40000000 in
theorem rm11_39 (l : Launch) (Z : State) (a0 : Array Value) (hw : ∀ d ∈ tables_1, d.before a0 Z = true) (ws : List Jvm.Cond) (a1 : Addr) (v2 : Value) (h0 : Heap) (n0 : Nat) (Z0 : n0 ≤ Array.size h0) (P0 : own_Box Z h0 v2) (P1 : Fld Z h0 a1 zs0 "value0" zs1 v2) :
    MetFree l (⟨zs0, "value", zs6⟩ : MethodName) (head1 (Jvm.Cond.code (⟨zs0, "value", zs6⟩ : MethodName) prog_25_method_20_code 3 (some (.object zs2)) :: ws) ({ frames := 0, cells := 0, slots := 0, locals := 0 } : Room)) (fun a U => a = #[(.ref a1), (.int (0 : Int32))] ∧ Z.Warmed39 U.vm ∧ U.heap = h0) (fun _ _ _ _ _ => True) (fun _ U o U' => ∃ v L, o = .returned v ∧ own_QQ n0 (own_Same (some v2) h0) v U'.heap L ∧ FrameEnd U o U' L ({ frames := 0, cells := 0, slots := 0, locals := 0 } : Room).cells ({ frames := 0, cells := 0, slots := 0, locals := 0 } : Room).slots) := by
  refine MetFree.of_bodySF (plainFor_of_name pn_com_example_napkintree_napkintree_balancing_MultiwayTree_Node) hisR ?_
  intro p e s m args below meth c s₁ Bd hml0 hP hK
  obtain ⟨rfl, hZ, hh⟩ := hP
  have hx := Bd.exec
  have hby := Bd.bytes
  have hml : c.maxLocals = 3 := hml0
  have hown : s.vm.findClass zs0 = some m.cls := findClass_of_methodNamed Bd.named
  have hnm := (name_of_methodNamed Bd.named Bd.method).1
  have hlk : meth.locks = false := BodyLoose.notSynchronized Bd
  have Y0 : own_S p l e ({ frames := 0, cells := 0, slots := 0, locals := 0 } : Room) s m #[(.ref a1), (.int (0 : Int32))] below meth c n0 s₁ h0 0 0 := ⟨[], Stand.of_body Bd, Fr.nil n0, by rw [← hh, Bd.state]; rfl, Z0⟩
  refine (?_ : own_Fin p e below _ _)
  refine own_st (fun t k => castTop (ef_11_RI m a1 (0 : Int32)) k) ?_
  refine own_iloadN Y0 hx (pc' := 1) (hb hby d11_0) rfl rfl ?_
  refine own_tswIn Y0 hx (pc' := 28) (o := 27) (hb hby d11_1) (by decide) (by decide) (by decide) (by decide) ?_
  refine own_aloadN Y0 hx (pc' := 29) (hb hby d11_28) rfl rfl rfl ?_
  refine own_getF Y0 hx (pc' := 32) (v := v2) hZ hown (host := "") (Or.inl (own_w hw 32 rfl)) Via.refl P1 (hb hby d11_29) rfl (fun T1 Y1 => ?_)
  refine own_goto Y1 hx (pc' := 58) (hb hby d11_32) (by decide) (by decide) ?_
  refine own_astoreN Y1 hx (pc' := 59) (Ls' := #[.val (.ref a1), .val (.int (0 : Int32)), .val v2]) (hb hby d11_58) rfl (own_BoxRef P0) (own_stV (own_BoxRef P0) rfl (Or.inl rfl) rfl) ?_
  refine own_aloadN Y1 hx (pc' := 60) (hb hby d11_59) rfl rfl (own_BoxRef P0) ?_
  exact own_retA Y1 hx hlk Bd.returns (own_narR rfl (own_BoxRef P0)) rfl (own_BoxRef P0) (hb hby d11_60) ⟨rfl, rfl⟩ (by decide) (by decide)
set_option maxRecDepth 65536 in
set_option maxHeartbeats 40000000 in
theorem rm11_40 (l : Launch) (Z : State) (a0 : Array Value) (hw : ∀ d ∈ tables_1, d.before a0 Z = true) (ws : List Jvm.Cond) (a1 : Addr) (v2 : Value) (h0 : Heap) (n0 : Nat) (Z0 : n0 ≤ Array.size h0) (P0 : own_Box Z h0 v2) (P1 : Fld Z h0 a1 zs0 "value1" zs1 v2) :
    MetFree l (⟨zs0, "value", zs6⟩ : MethodName) (head1 (Jvm.Cond.code (⟨zs0, "value", zs6⟩ : MethodName) prog_25_method_20_code 3 (some (.object zs2)) :: ws) ({ frames := 0, cells := 0, slots := 0, locals := 0 } : Room)) (fun a U => a = #[(.ref a1), (.int (1 : Int32))] ∧ Z.Warmed39 U.vm ∧ U.heap = h0) (fun _ _ _ _ _ => True) (fun _ U o U' => ∃ v L, o = .returned v ∧ own_QQ n0 (own_Same (some v2) h0) v U'.heap L ∧ FrameEnd U o U' L ({ frames := 0, cells := 0, slots := 0, locals := 0 } : Room).cells ({ frames := 0, cells := 0, slots := 0, locals := 0 } : Room).slots) := by
  refine MetFree.of_bodySF (plainFor_of_name pn_com_example_napkintree_napkintree_balancing_MultiwayTree_Node) hisR ?_
  intro p e s m args below meth c s₁ Bd hml0 hP hK
  obtain ⟨rfl, hZ, hh⟩ := hP
  have hx := Bd.exec
  have hby := Bd.bytes
  have hml : c.maxLocals = 3 := hml0
  have hown : s.vm.findClass zs0 = some m.cls := findClass_of_methodNamed Bd.named
  have hnm := (name_of_methodNamed Bd.named Bd.method).1
  have hlk : meth.locks = false := BodyLoose.notSynchronized Bd
  have Y0 : own_S p l e ({ frames := 0, cells := 0, slots := 0, locals := 0 } : Room) s m #[(.ref a1), (.int (1 : Int32))] below meth c n0 s₁ h0 0 0 := ⟨[], Stand.of_body Bd, Fr.nil n0, by rw [← hh, Bd.state]; rfl, Z0⟩
  refine (?_ : own_Fin p e below _ _)
  refine own_st (fun t k => castTop (ef_11_RI m a1 (1 : Int32)) k) ?_
  refine own_iloadN Y0 hx (pc' := 1) (hb hby d11_0) rfl rfl ?_
  refine own_tswIn Y0 hx (pc' := 35) (o := 34) (hb hby d11_1) (by decide) (by decide) (by decide) (by decide) ?_
  refine own_aloadN Y0 hx (pc' := 36) (hb hby d11_35) rfl rfl rfl ?_
  refine own_getF Y0 hx (pc' := 39) (v := v2) hZ hown (host := "") (Or.inl (own_w hw 36 rfl)) Via.refl P1 (hb hby d11_36) rfl (fun T1 Y1 => ?_)
  refine own_goto Y1 hx (pc' := 58) (hb hby d11_39) (by decide) (by decide) ?_
  refine own_astoreN Y1 hx (pc' := 59) (Ls' := #[.val (.ref a1), .val (.int (1 : Int32)), .val v2]) (hb hby d11_58) rfl (own_BoxRef P0) (own_stV (own_BoxRef P0) rfl (Or.inl rfl) rfl) ?_
  refine own_aloadN Y1 hx (pc' := 60) (hb hby d11_59) rfl rfl (own_BoxRef P0) ?_
  exact own_retA Y1 hx hlk Bd.returns (own_narR rfl (own_BoxRef P0)) rfl (own_BoxRef P0) (hb hby d11_60) ⟨rfl, rfl⟩ (by decide) (by decide)
set_option maxRecDepth 65536 in
set_option maxHeartbeats 40000000 in
theorem rm0_c31 (l : Launch) (Z : State) (a0 : Array Value) (hw : ∀ d ∈ tables_1, d.before a0 Z = true) (ws : List Jvm.Cond) (w_NULL_KEY : Addr) (w_cache : Addr) (p0 : Int32) (p1 : Int32) (p2 : Int32) (p3 : Int32) (p4 : Int32) (p5 : Int32) (h0 : Heap) (n0 : Nat) (Z0 : n0 ≤ Array.size h0) (PN : own_Pins Z h0 w_NULL_KEY w_cache) (q0 : ((p3 &&& (2147483647 : Int32)) % (3 : Int32)) = (2 : Int32)) (q1 : ((p4 &&& (2147483647 : Int32)) % (3 : Int32)) = (1 : Int32)) :
    MetFree l x (head1 (Jvm.Cond.code x code maxLocals ret :: ws) room_1) (fun a U => a = #[(.int p0), (.int p1), (.int p2), (.int p3), (.int p4), (.int p5)] ∧ Z.Warmed39 U.vm ∧ U.heap = h0) (fun _ _ _ _ _ => True) (fun _ U o U' => ∃ v L, o = .returned v ∧ own_QQ n0 (own_R (some (.int (1 : Int32))) (fun _ => True)) v U'.heap L ∧ FrameEnd U o U' L room_1.cells room_1.slots) := by
  refine MetFree.of_bodySF (plainFor_of_name pn_com_example_napkintree_napkintree_balancing_NodeRemoveEntryPinLaw) hisR ?_
  intro p e s m args below meth c s₁ Bd hml0 hP hK
  obtain ⟨rfl, hZ, hh⟩ := hP
  have hx := Bd.exec
  have hby := Bd.bytes
  have hml : c.maxLocals = 21 := hml0
  have hown : s.vm.findClass zs7 = some m.cls := findClass_of_methodNamed Bd.named
  have hnm := (name_of_methodNamed Bd.named Bd.method).1
  have hlk : meth.locks = false := BodyLoose.notSynchronized Bd
  have Y0 : own_S p l e room_1 s m #[(.int p0), (.int p1), (.int p2), (.int p3), (.int p4), (.int p5)] below meth c n0 s₁ h0 0 0 := ⟨[], Stand.of_body Bd, Fr.nil n0, by rw [← hh, Bd.state]; rfl, Z0⟩
  obtain ⟨S_NULL_KEY, E_NULL_KEY, S_high, S_cache, H_cache⟩ := PN
  refine (?_ : own_Fin p e below _ _)
  refine own_st (fun t k => castTop (ef_0_IIIIII m p0 p1 p2 p3 p4 p5) k) ?_
  show own_Fin p e below (own_KL s n0) _
  refine own_iloadN Y0 hx (pc' := 1) (hb hby at_0) rfl rfl ?_
  refine own_ldcI Y0 hx (pc' := 3) hZ hown (own_w hw 0 rfl) (hb hby at_1) rfl ?_
  refine own_iand Y0 hx (pc' := 4) (hb hby at_3) rfl (z := (p3 &&& (2147483647 : Int32))) rfl ?_
  refine own_iconst Y0 hx (pc' := 5) (x := (3 : Int32)) (hb hby at_4) rfl (by decide) ?_
  refine own_irem Y0 hx (pc' := 6) (hb hby at_5) rfl (by decide) (z := (2 : Int32)) q0 ?_
  refine own_iconst Y0 hx (pc' := 7) (x := (1 : Int32)) (hb hby at_6) rfl (by decide) ?_
  refine own_iadd Y0 hx (pc' := 8) (hb hby at_7) rfl (z := (3 : Int32)) (by decide) ?_
  refine own_istore Y0 hx (pc' := 10) (Ls' := #[.val (.int p0), .val (.int p1), .val (.int p2), .val (.int p3), .val (.int p4), .val (.int p5), .val (.int (3 : Int32)), .unset, .unset, .unset, .unset, .unset, .unset, .unset, .unset, .unset, .unset, .unset, .unset, .unset, .unset]) (hb hby at_8) rfl rfl ?_
  refine own_iload Y0 hx (pc' := 12) (hb hby at_10) rfl rfl ?_
  refine own_ldcI Y0 hx (pc' := 14) hZ hown (own_w hw 0 rfl) (hb hby at_12) rfl ?_
  refine own_iand Y0 hx (pc' := 15) (hb hby at_14) rfl (z := (p4 &&& (2147483647 : Int32))) rfl ?_
  refine own_iload Y0 hx (pc' := 17) (hb hby at_15) rfl rfl ?_
  refine own_irem Y0 hx (pc' := 18) (hb hby at_17) rfl (by decide) (z := (1 : Int32)) q1 ?_
  refine own_istore Y0 hx (pc' := 20) (Ls' := #[.val (.int p0), .val (.int p1), .val (.int p2), .val (.int p3), .val (.int p4), .val (.int p5), .val (.int (3 : Int32)), .val (.int (1 : Int32)), .unset, .unset, .unset, .unset, .unset, .unset, .unset, .unset, .unset, .unset, .unset, .unset, .unset]) (hb hby at_18) rfl rfl ?_
  refine own_iload Y0 hx (pc' := 22) (hb hby at_20) rfl rfl ?_
  refine own_iconst Y0 hx (pc' := 23) (x := (1 : Int32)) (hb hby at_22) rfl (by decide) ?_
  refine own_iand Y0 hx (pc' := 24) (hb hby at_23) rfl (z := (p5 &&& (1 : Int32))) rfl ?_
  have J35 : ∀ (T' : State) (h' : Heap) (k0 : Value), own_S p l e room_1 s m #[(.int p0), (.int p1), (.int p2), (.int p3), (.int p4), (.int p5)] below meth c n0 T' h' 1 1 → own_Kp h0 h' [] → own_Box Z h' k0 → own_Fin p e below (own_KL s n0) (T'.setTop (mkF m 35 #[.val (.int p0), .val (.int p1), .val (.int p2), .val (.int p3), .val (.int p4), .val (.int p5), .val (.int (3 : Int32)), .val (.int (1 : Int32)), .unset, .unset, .unset, .unset, .unset, .unset, .unset, .unset, .unset, .unset, .unset, .unset, .unset] [k0])) := by
    intro T1 h1 k0 Y1 K1 B1
    have hr_k0 : k0.isRef = true := own_BoxRef B1
    refine own_astore Y1 hx (pc' := 37) (Ls' := #[.val (.int p0), .val (.int p1), .val (.int p2), .val (.int p3), .val (.int p4), .val (.int p5), .val (.int (3 : Int32)), .val (.int (1 : Int32)), .val k0, .unset, .unset, .unset, .unset, .unset, .unset, .unset, .unset, .unset, .unset, .unset, .unset]) (hb hby at_35) rfl hr_k0 (own_stV hr_k0 rfl (Or.inl rfl) rfl) ?_
    refine own_iload Y1 hx (pc' := 39) (hb hby at_37) rfl rfl ?_
    refine own_iconst Y1 hx (pc' := 40) (x := (2 : Int32)) (hb hby at_39) rfl (by decide) ?_
    refine own_iand Y1 hx (pc' := 41) (hb hby at_40) rfl (z := (p5 &&& (2 : Int32))) rfl ?_
    have J52 : ∀ (T' : State) (h' : Heap) (k1 : Value), own_S p l e room_1 s m #[(.int p0), (.int p1), (.int p2), (.int p3), (.int p4), (.int p5)] below meth c n0 T' h' 2 2 → own_Kp h1 h' [] → own_Box Z h' k1 → own_Fin p e below (own_KL s n0) (T'.setTop (mkF m 52 #[.val (.int p0), .val (.int p1), .val (.int p2), .val (.int p3), .val (.int p4), .val (.int p5), .val (.int (3 : Int32)), .val (.int (1 : Int32)), .val k0, .unset, .unset, .unset, .unset, .unset, .unset, .unset, .unset, .unset, .unset, .unset, .unset] [k1])) := by
      intro T2 h2 k1 Y2 K2 B2
      have hr_k1 : k1.isRef = true := own_BoxRef B2
      refine own_astore Y2 hx (pc' := 54) (Ls' := #[.val (.int p0), .val (.int p1), .val (.int p2), .val (.int p3), .val (.int p4), .val (.int p5), .val (.int (3 : Int32)), .val (.int (1 : Int32)), .val k0, .val k1, .unset, .unset, .unset, .unset, .unset, .unset, .unset, .unset, .unset, .unset, .unset]) (hb hby at_52) rfl hr_k1 (own_stV hr_k1 rfl (Or.inl rfl) rfl) ?_
      refine own_iload Y2 hx (pc' := 56) (hb hby at_54) rfl rfl ?_
      refine own_iconst Y2 hx (pc' := 57) (x := (4 : Int32)) (hb hby at_56) rfl (by decide) ?_
      refine own_iand Y2 hx (pc' := 58) (hb hby at_57) rfl (z := (p5 &&& (4 : Int32))) rfl ?_
      have J69 : ∀ (T' : State) (h' : Heap) (k2 : Value), own_S p l e room_1 s m #[(.int p0), (.int p1), (.int p2), (.int p3), (.int p4), (.int p5)] below meth c n0 T' h' 3 3 → own_Kp h2 h' [] → own_Box Z h' k2 → own_Fin p e below (own_KL s n0) (T'.setTop (mkF m 69 #[.val (.int p0), .val (.int p1), .val (.int p2), .val (.int p3), .val (.int p4), .val (.int p5), .val (.int (3 : Int32)), .val (.int (1 : Int32)), .val k0, .val k1, .unset, .unset, .unset, .unset, .unset, .unset, .unset, .unset, .unset, .unset, .unset] [k2])) := by
        intro T3 h3 k2 Y3 K3 B3
        have hr_k2 : k2.isRef = true := own_BoxRef B3
        refine own_astore Y3 hx (pc' := 71) (Ls' := #[.val (.int p0), .val (.int p1), .val (.int p2), .val (.int p3), .val (.int p4), .val (.int p5), .val (.int (3 : Int32)), .val (.int (1 : Int32)), .val k0, .val k1, .val k2, .unset, .unset, .unset, .unset, .unset, .unset, .unset, .unset, .unset, .unset]) (hb hby at_69) rfl hr_k2 (own_stV hr_k2 rfl (Or.inl rfl) rfl) ?_
        refine own_iload Y3 hx (pc' := 73) (hb hby at_71) rfl rfl ?_
        refine own_bipush Y3 hx (pc' := 75) (x := (8 : Int32)) (hb hby at_73) rfl (by decide) ?_
        refine own_iand Y3 hx (pc' := 76) (hb hby at_75) rfl (z := (p5 &&& (8 : Int32))) rfl ?_
        have J87 : ∀ (T' : State) (h' : Heap) (v0 : Value), own_S p l e room_1 s m #[(.int p0), (.int p1), (.int p2), (.int p3), (.int p4), (.int p5)] below meth c n0 T' h' 4 4 → own_Kp h3 h' [] → own_Box Z h' v0 → own_Fin p e below (own_KL s n0) (T'.setTop (mkF m 87 #[.val (.int p0), .val (.int p1), .val (.int p2), .val (.int p3), .val (.int p4), .val (.int p5), .val (.int (3 : Int32)), .val (.int (1 : Int32)), .val k0, .val k1, .val k2, .unset, .unset, .unset, .unset, .unset, .unset, .unset, .unset, .unset, .unset] [v0])) := by
          intro T4 h4 v0 Y4 K4 B4
          have hr_v0 : v0.isRef = true := own_BoxRef B4
          refine own_astore Y4 hx (pc' := 89) (Ls' := #[.val (.int p0), .val (.int p1), .val (.int p2), .val (.int p3), .val (.int p4), .val (.int p5), .val (.int (3 : Int32)), .val (.int (1 : Int32)), .val k0, .val k1, .val k2, .val v0, .unset, .unset, .unset, .unset, .unset, .unset, .unset, .unset, .unset]) (hb hby at_87) rfl hr_v0 (own_stV hr_v0 rfl (Or.inl rfl) rfl) ?_
          refine own_iload Y4 hx (pc' := 91) (hb hby at_89) rfl rfl ?_
          refine own_bipush Y4 hx (pc' := 93) (x := (16 : Int32)) (hb hby at_91) rfl (by decide) ?_
          refine own_iand Y4 hx (pc' := 94) (hb hby at_93) rfl (z := (p5 &&& (16 : Int32))) rfl ?_
          have J106 : ∀ (T' : State) (h' : Heap) (v1 : Value), own_S p l e room_1 s m #[(.int p0), (.int p1), (.int p2), (.int p3), (.int p4), (.int p5)] below meth c n0 T' h' 5 5 → own_Kp h4 h' [] → own_Box Z h' v1 → own_Fin p e below (own_KL s n0) (T'.setTop (mkF m 106 #[.val (.int p0), .val (.int p1), .val (.int p2), .val (.int p3), .val (.int p4), .val (.int p5), .val (.int (3 : Int32)), .val (.int (1 : Int32)), .val k0, .val k1, .val k2, .val v0, .unset, .unset, .unset, .unset, .unset, .unset, .unset, .unset, .unset] [v1])) := by
            intro T5 h5 v1 Y5 K5 B5
            have hr_v1 : v1.isRef = true := own_BoxRef B5
            refine own_astore Y5 hx (pc' := 108) (Ls' := #[.val (.int p0), .val (.int p1), .val (.int p2), .val (.int p3), .val (.int p4), .val (.int p5), .val (.int (3 : Int32)), .val (.int (1 : Int32)), .val k0, .val k1, .val k2, .val v0, .val v1, .unset, .unset, .unset, .unset, .unset, .unset, .unset, .unset]) (hb hby at_106) rfl hr_v1 (own_stV hr_v1 rfl (Or.inl rfl) rfl) ?_
            refine own_iload Y5 hx (pc' := 110) (hb hby at_108) rfl rfl ?_
            refine own_bipush Y5 hx (pc' := 112) (x := (32 : Int32)) (hb hby at_110) rfl (by decide) ?_
            refine own_iand Y5 hx (pc' := 113) (hb hby at_112) rfl (z := (p5 &&& (32 : Int32))) rfl ?_
            have J125 : ∀ (T' : State) (h' : Heap) (v2 : Value), own_S p l e room_1 s m #[(.int p0), (.int p1), (.int p2), (.int p3), (.int p4), (.int p5)] below meth c n0 T' h' 6 6 → own_Kp h5 h' [] → own_Box Z h' v2 → own_Fin p e below (own_KL s n0) (T'.setTop (mkF m 125 #[.val (.int p0), .val (.int p1), .val (.int p2), .val (.int p3), .val (.int p4), .val (.int p5), .val (.int (3 : Int32)), .val (.int (1 : Int32)), .val k0, .val k1, .val k2, .val v0, .val v1, .unset, .unset, .unset, .unset, .unset, .unset, .unset, .unset] [v2])) := by
              intro T6 h6 v2 Y6 K6 B6
              have hr_v2 : v2.isRef = true := own_BoxRef B6
              refine own_astore Y6 hx (pc' := 127) (Ls' := #[.val (.int p0), .val (.int p1), .val (.int p2), .val (.int p3), .val (.int p4), .val (.int p5), .val (.int (3 : Int32)), .val (.int (1 : Int32)), .val k0, .val k1, .val k2, .val v0, .val v1, .val v2, .unset, .unset, .unset, .unset, .unset, .unset, .unset]) (hb hby at_125) rfl hr_v2 (own_stV hr_v2 rfl (Or.inl rfl) rfl) ?_
              refine own_iconst Y6 hx (pc' := 128) (x := (4 : Int32)) (hb hby at_127) rfl (by decide) ?_
              have KC8 : own_Kp h0 h6 [] := (((((((own_Kp.refl h0 []).trans K1 own_all0).trans K2 own_all0).trans K3 own_all0).trans K4 own_all0).trans K5 own_all0).trans K6 own_all0)
              refine own_anew Y6 hx (pc' := 131) (cap := 4) (cl' := 7) (sl' := 10) (vs := [.null, .null, .null, .null]) hZ hown (own_w hw 8 rfl) (own_w hw 9 rfl) (hb hby at_128) rfl (by decide) (by decide) (by decide) rfl rfl (by decide) (by decide) rfl (fun T7 h7 b7 k7 Y7 K7 le7 V7 O7 => ?_)
              have sz_b7 : Array.size h0 ≤ b7 := Nat.le_trans KC8.1 le7
              refine own_astore Y7 hx (pc' := 133) (Ls' := #[.val (.int p0), .val (.int p1), .val (.int p2), .val (.int p3), .val (.int p4), .val (.int p5), .val (.int (3 : Int32)), .val (.int (1 : Int32)), .val k0, .val k1, .val k2, .val v0, .val v1, .val v2, .val (.ref b7), .unset, .unset, .unset, .unset, .unset, .unset]) (hb hby at_131) rfl rfl rfl ?_
              refine own_iconst Y7 hx (pc' := 134) (x := (4 : Int32)) (hb hby at_133) rfl (by decide) ?_
              have KC10 : own_Kp h0 h7 [] := (KC8.trans K7 own_all0)
              refine own_anew Y7 hx (pc' := 137) (cap := 4) (cl' := 8) (sl' := 14) (vs := [.null, .null, .null, .null]) hZ hown (own_w hw 8 rfl) (own_w hw 9 rfl) (hb hby at_134) rfl (by decide) (by decide) (by decide) rfl rfl (by decide) (by decide) rfl (fun T9 h9 b9 k9 Y9 K9 le9 V9 O9 => ?_)
              have sz_b9 : Array.size h0 ≤ b9 := Nat.le_trans KC10.1 le9
              refine own_astore Y9 hx (pc' := 139) (Ls' := #[.val (.int p0), .val (.int p1), .val (.int p2), .val (.int p3), .val (.int p4), .val (.int p5), .val (.int (3 : Int32)), .val (.int (1 : Int32)), .val k0, .val k1, .val k2, .val v0, .val v1, .val v2, .val (.ref b7), .val (.ref b9), .unset, .unset, .unset, .unset, .unset]) (hb hby at_137) rfl rfl rfl ?_
              refine own_aload Y9 hx (pc' := 141) (hb hby at_139) rfl rfl rfl ?_
              refine own_iconst Y9 hx (pc' := 142) (x := (0 : Int32)) (hb hby at_141) rfl (by decide) ?_
              refine own_aload Y9 hx (pc' := 144) (hb hby at_142) rfl rfl hr_k0 ?_
              have F12 := (own_A V7 K9 own_out0)
              have F13 := (own_B (own_B (own_B (own_B (own_B (own_B (own_B B1 K2 own_off0) K3 own_off0) K4 own_off0) K5 own_off0) K6 own_off0) K7 own_off0) K9 own_off0)
              refine own_aast Y9 hx (pc' := 145) (i := 0) (vs' := [k0, .null, .null, .null]) hZ F12 (by decide) rfl (by show 0 < 4; decide) rfl (fun _ A q => own_stoB A q O7 F13) (own_fitR rfl hr_k0) (Nat.le_trans Z0 sz_b7) rfl (hb hby at_144) rfl (fun T11 h11 Y11 K11 V11 => ?_)
              refine own_aload Y11 hx (pc' := 147) (hb hby at_145) rfl rfl rfl ?_
              refine own_iconst Y11 hx (pc' := 148) (x := (0 : Int32)) (hb hby at_147) rfl (by decide) ?_
              refine own_aload Y11 hx (pc' := 150) (hb hby at_148) rfl rfl hr_v0 ?_
              have D15 : b7 ≠ b9 := (Nat.ne_of_lt (Nat.lt_of_lt_of_le V7.lt le9))
              have F16 := (own_A V9 K11 (own_out (Ne.symm D15) own_out0))
              have F17 := (own_B (own_B B4 K5 own_off0) K6 own_off0)
              have O18 := (own_offN F17 le7)
              have F19 := (own_B (own_B (own_B (own_B (own_B B4 K5 own_off0) K6 own_off0) K7 own_off0) K9 own_off0) K11 (own_offS O18 own_off0))
              refine own_aast Y11 hx (pc' := 151) (i := 0) (vs' := [v0, .null, .null, .null]) hZ F16 (by decide) rfl (by show 0 < 4; decide) rfl (fun _ A q => own_stoB A q O9 F19) (own_fitR rfl hr_v0) (Nat.le_trans Z0 sz_b9) rfl (hb hby at_150) rfl (fun T14 h14 Y14 K14 V14 => ?_)
              refine own_iload Y14 hx (pc' := 153) (hb hby at_151) rfl rfl ?_
              refine own_iconst Y14 hx (pc' := 154) (x := (2 : Int32)) (hb hby at_153) rfl (by decide) ?_
              refine own_icmpNo Y14 hx (pc' := 157) (hb hby at_154) rfl (by decide) ?_
              refine own_aload Y14 hx (pc' := 159) (hb hby at_157) rfl rfl rfl ?_
              refine own_iconst Y14 hx (pc' := 160) (x := (1 : Int32)) (hb hby at_159) rfl (by decide) ?_
              refine own_aload Y14 hx (pc' := 162) (hb hby at_160) rfl rfl hr_k1 ?_
              have F21 := (own_A V11 K14 (own_out D15 own_out0))
              have F22 := (own_B (own_B (own_B (own_B B2 K3 own_off0) K4 own_off0) K5 own_off0) K6 own_off0)
              have O23 := (own_offN F22 le7)
              have F24 := (own_B F22 K7 own_off0)
              have O25 := (own_offN F24 le9)
              have F26 := (own_B (own_B (own_B (own_B (own_B (own_B (own_B (own_B B2 K3 own_off0) K4 own_off0) K5 own_off0) K6 own_off0) K7 own_off0) K9 own_off0) K11 (own_offS O23 own_off0)) K14 (own_offS O25 own_off0))
              refine own_aast Y14 hx (pc' := 163) (i := 1) (vs' := [k0, k1, .null, .null]) hZ F21 (by decide) rfl (by show 1 < 4; decide) rfl (fun _ A q => own_stoB A q O7 F26) (own_fitR rfl hr_k1) (Nat.le_trans Z0 sz_b7) rfl (hb hby at_162) rfl (fun T20 h20 Y20 K20 V20 => ?_)
              refine own_aload Y20 hx (pc' := 165) (hb hby at_163) rfl rfl rfl ?_
              refine own_iconst Y20 hx (pc' := 166) (x := (1 : Int32)) (hb hby at_165) rfl (by decide) ?_
              refine own_aload Y20 hx (pc' := 168) (hb hby at_166) rfl rfl hr_v1 ?_
              have F28 := (own_A V14 K20 (own_out (Ne.symm D15) own_out0))
              have F29 := (own_B B5 K6 own_off0)
              have O30 := (own_offN F29 le7)
              have F31 := (own_B F29 K7 own_off0)
              have O32 := (own_offN F31 le9)
              have F33 := (own_B (own_B (own_B (own_B (own_B (own_B B5 K6 own_off0) K7 own_off0) K9 own_off0) K11 (own_offS O30 own_off0)) K14 (own_offS O32 own_off0)) K20 (own_offS O30 own_off0))
              refine own_aast Y20 hx (pc' := 169) (i := 1) (vs' := [v0, v1, .null, .null]) hZ F28 (by decide) rfl (by show 1 < 4; decide) rfl (fun _ A q => own_stoB A q O9 F33) (own_fitR rfl hr_v1) (Nat.le_trans Z0 sz_b9) rfl (hb hby at_168) rfl (fun T27 h27 Y27 K27 V27 => ?_)
              refine own_iload Y27 hx (pc' := 171) (hb hby at_169) rfl rfl ?_
              refine own_iconst Y27 hx (pc' := 172) (x := (3 : Int32)) (hb hby at_171) rfl (by decide) ?_
              refine own_icmpNo Y27 hx (pc' := 175) (hb hby at_172) rfl (by decide) ?_
              refine own_aload Y27 hx (pc' := 177) (hb hby at_175) rfl rfl rfl ?_
              refine own_iconst Y27 hx (pc' := 178) (x := (2 : Int32)) (hb hby at_177) rfl (by decide) ?_
              refine own_aload Y27 hx (pc' := 180) (hb hby at_178) rfl rfl hr_k2 ?_
              have F35 := (own_A V20 K27 (own_out D15 own_out0))
              have F36 := (own_B (own_B (own_B B3 K4 own_off0) K5 own_off0) K6 own_off0)
              have O37 := (own_offN F36 le7)
              have F38 := (own_B F36 K7 own_off0)
              have O39 := (own_offN F38 le9)
              have F40 := (own_B (own_B (own_B (own_B (own_B (own_B (own_B (own_B (own_B B3 K4 own_off0) K5 own_off0) K6 own_off0) K7 own_off0) K9 own_off0) K11 (own_offS O37 own_off0)) K14 (own_offS O39 own_off0)) K20 (own_offS O37 own_off0)) K27 (own_offS O39 own_off0))
              refine own_aast Y27 hx (pc' := 181) (i := 2) (vs' := [k0, k1, k2, .null]) hZ F35 (by decide) rfl (by show 2 < 4; decide) rfl (fun _ A q => own_stoB A q O7 F40) (own_fitR rfl hr_k2) (Nat.le_trans Z0 sz_b7) rfl (hb hby at_180) rfl (fun T34 h34 Y34 K34 V34 => ?_)
              refine own_aload Y34 hx (pc' := 183) (hb hby at_181) rfl rfl rfl ?_
              refine own_iconst Y34 hx (pc' := 184) (x := (2 : Int32)) (hb hby at_183) rfl (by decide) ?_
              refine own_aload Y34 hx (pc' := 186) (hb hby at_184) rfl rfl hr_v2 ?_
              have F42 := (own_A V27 K34 (own_out (Ne.symm D15) own_out0))
              have O43 := (own_offN B6 le7)
              have F44 := (own_B B6 K7 own_off0)
              have O45 := (own_offN F44 le9)
              have F46 := (own_B (own_B (own_B (own_B (own_B (own_B (own_B B6 K7 own_off0) K9 own_off0) K11 (own_offS O43 own_off0)) K14 (own_offS O45 own_off0)) K20 (own_offS O43 own_off0)) K27 (own_offS O45 own_off0)) K34 (own_offS O43 own_off0))
              refine own_aast Y34 hx (pc' := 187) (i := 2) (vs' := [v0, v1, v2, .null]) hZ F42 (by decide) rfl (by show 2 < 4; decide) rfl (fun _ A q => own_stoB A q O9 F46) (own_fitR rfl hr_v2) (Nat.le_trans Z0 sz_b9) rfl (hb hby at_186) rfl (fun T41 h41 Y41 K41 V41 => ?_)
              have KC48 : own_Kp h0 h41 [] := (((((((KC10.trans K9 own_all0).trans K11 (own_allS (Or.inr sz_b7) own_all0)).trans K14 (own_allS (Or.inr sz_b9) own_all0)).trans K20 (own_allS (Or.inr sz_b7) own_all0)).trans K27 (own_allS (Or.inr sz_b9) own_all0)).trans K34 (own_allS (Or.inr sz_b7) own_all0)).trans K41 (own_allS (Or.inr sz_b9) own_all0))
              refine own_new Y41 hx (pc' := 190) (cl' := 9) (sl' := 25) hZ hown (own_w hw 11 rfl) (own_w hw 12 rfl) (own_w hw 13 rfl) (hb hby at_187) rfl rfl rfl (by decide) (by decide) (fun T47 h47 b47 Y47 K47 le47 E47 D47 => ?_)
              have sz_b47 : Array.size h0 ≤ b47 := Nat.le_trans KC48.1 le47
              refine own_dup Y47 hx (pc' := 191) (hb hby at_190) rfl rfl ?_
              refine own_special Y47 hx (pc' := 194) (W := 1) (cl' := 9) (sl' := 25) (as' := []) (S' := [(.ref b47)]) (a := b47) rfl hZ hown (own_w hw 14 rfl) (own_w hw 15 rfl) (own_w hw 13 rfl) (own_w hw 16 rfl) (by decide) (rm2_1 l Z a0 hw [] b47 h47 n0 (own_sz Y47)) (hb hby at_191) rfl (by rw [hml]; rfl) rfl (lenOf pd___V rfl) rfl (by decide) (by decide) rfl rfl (by decide) (by decide) own_Same.sz (own_fixS (S2 := [(.ref b47)]) rfl (fun T49 Y49 => ?_))
              refine own_astore Y49 hx (pc' := 196) (Ls' := #[.val (.int p0), .val (.int p1), .val (.int p2), .val (.int p3), .val (.int p4), .val (.int p5), .val (.int (3 : Int32)), .val (.int (1 : Int32)), .val k0, .val k1, .val k2, .val v0, .val v1, .val v2, .val (.ref b7), .val (.ref b9), .val (.ref b47), .unset, .unset, .unset, .unset]) (hb hby at_194) rfl rfl rfl ?_
              refine own_aload Y49 hx (pc' := 198) (hb hby at_196) rfl rfl rfl ?_
              refine own_iconst Y49 hx (pc' := 199) (x := (0 : Int32)) (hb hby at_198) rfl (by decide) ?_
              refine own_aload Y49 hx (pc' := 201) (hb hby at_199) rfl rfl hr_k0 ?_
              refine own_aload Y49 hx (pc' := 203) (hb hby at_201) rfl rfl hr_v0 ?_
              have F51 := (own_B (own_B (own_B (own_B (own_B B1 K2 own_off0) K3 own_off0) K4 own_off0) K5 own_off0) K6 own_off0)
              have O52 := (own_offN F51 le7)
              have F53 := (own_B F51 K7 own_off0)
              have O54 := (own_offN F53 le9)
              have F55 := (own_B (own_B (own_B (own_B (own_B (own_B (own_B F13 K11 (own_offS O52 own_off0)) K14 (own_offS O54 own_off0)) K20 (own_offS O52 own_off0)) K27 (own_offS O54 own_off0)) K34 (own_offS O52 own_off0)) K41 (own_offS O54 own_off0)) K47 own_off0)
              have F56 := (own_B F17 K7 own_off0)
              have O57 := (own_offN F56 le9)
              have F58 := (own_B (own_B (own_B (own_B (own_B (own_B F19 K14 (own_offS O57 own_off0)) K20 (own_offS O18 own_off0)) K27 (own_offS O57 own_off0)) K34 (own_offS O18 own_off0)) K41 (own_offS O57 own_off0)) K47 own_off0)
              have F59 := (own_St (own_St (own_St (own_St (own_St (own_St (own_St (own_St (own_St (own_St (own_St (own_St (own_St (own_St (own_St S_NULL_KEY K1 own_all0) K2 own_all0) K3 own_all0) K4 own_all0) K5 own_all0) K6 own_all0) K7 own_all0) K9 own_all0) K11 (own_allS (own_plainA F12) own_all0)) K14 (own_allS (own_plainA F16) own_all0)) K20 (own_allS (own_plainA F21) own_all0)) K27 (own_allS (own_plainA F28) own_all0)) K34 (own_allS (own_plainA F35) own_all0)) K41 (own_allS (own_plainA F42) own_all0)) K47 own_all0)
              have F60 := (own_E (own_E (own_E (own_E (own_E (own_E (own_E (own_E (own_E (own_E (own_E (own_E (own_E (own_E (own_E E_NULL_KEY K1) K2) K3) K4) K5) K6) K7) K9) K11) K14) K20) K27) K34) K41) K47)
              refine own_virtual Y49 hx (pc' := 206) (W := 0) (cl' := 9) (sl' := 25) (as' := [(.int (0 : Int32)), k0, v0]) (S' := []) (a := b47) hZ hown (own_w hw 20 rfl) (own_w hw 21 rfl) (notFace_of_selects (args := #[]) (mvT hZ (own_w hw 23 rfl))) (own_w hw 23 rfl) (own_w hw 22 rfl) (own_w hw 13 rfl) (own_w hw 24 rfl) (by decide) E47 (rm4_3 l Z a0 hw [] b47 k0 v0 w_NULL_KEY h47 n0 (own_sz Y49) F55 F58 F59 F60 (D47 (Or.inl (own_w hw 31 rfl)) (ty := (.object zs2)) (by decide)) E47 (Nat.le_trans Z0 sz_b47) (D47 (Or.inl (own_w hw 33 rfl)) (ty := (.object zs2)) (by decide))) (hb hby at_203) rfl (by rw [hml]; rfl) rfl (lenOf pd__ILjava_lang_Object_Ljava_lang_Object__V rfl) rfl (by decide) (by decide) rfl rfl (by decide) (by decide) P4_3_sz (own_fixR (S2 := []) rfl (fun T50 h50 Y50 R50 => ?_))
              obtain ⟨K50, G50_0, G50_1⟩ := R50
              refine own_iload Y50 hx (pc' := 208) (hb hby at_206) rfl rfl ?_
              refine own_iconst Y50 hx (pc' := 209) (x := (2 : Int32)) (hb hby at_208) rfl (by decide) ?_
              refine own_icmpNo Y50 hx (pc' := 212) (hb hby at_209) rfl (by decide) ?_
              refine own_aload Y50 hx (pc' := 214) (hb hby at_212) rfl rfl rfl ?_
              refine own_iconst Y50 hx (pc' := 215) (x := (1 : Int32)) (hb hby at_214) rfl (by decide) ?_
              refine own_aload Y50 hx (pc' := 217) (hb hby at_215) rfl rfl hr_k1 ?_
              refine own_aload Y50 hx (pc' := 219) (hb hby at_217) rfl rfl hr_v1 ?_
              have F62 := (own_E E47 K50)
              have F63 := (own_B (own_B (own_B (own_B F26 K20 (own_offS O23 own_off0)) K27 (own_offS O25 own_off0)) K34 (own_offS O23 own_off0)) K41 (own_offS O25 own_off0))
              have O64 := (own_offN F63 le47)
              have F65 := (own_B (own_B (own_B (own_B (own_B (own_B F26 K20 (own_offS O23 own_off0)) K27 (own_offS O25 own_off0)) K34 (own_offS O23 own_off0)) K41 (own_offS O25 own_off0)) K47 own_off0) K50 (own_offS O64 (own_offS O64 own_off0)))
              have F66 := (own_B (own_B (own_B F33 K27 (own_offS O32 own_off0)) K34 (own_offS O30 own_off0)) K41 (own_offS O32 own_off0))
              have O67 := (own_offN F66 le47)
              have F68 := (own_B (own_B (own_B (own_B (own_B F33 K27 (own_offS O32 own_off0)) K34 (own_offS O30 own_off0)) K41 (own_offS O32 own_off0)) K47 own_off0) K50 (own_offS O67 (own_offS O67 own_off0)))
              have F69 := (own_St F59 K50 (own_allS (own_plain E47) (own_allS (own_plain E47) own_all0)))
              have F70 := (own_E F60 K50)
              have F71 := (own_F (v := .null) (D47 (Or.inl (own_w hw 35 rfl)) (ty := (.object zs2)) (by decide)) K50 (own_nr (sl_2 hw) (own_nr (sl_3 hw) own_nin0)))
              have F72 := (own_F (v := .null) (D47 (Or.inl (own_w hw 37 rfl)) (ty := (.object zs2)) (by decide)) K50 (own_nr (sl_4 hw) (own_nr (sl_5 hw) own_nin0)))
              refine own_virtual Y50 hx (pc' := 222) (W := 0) (cl' := 9) (sl' := 25) (as' := [(.int (1 : Int32)), k1, v1]) (S' := []) (a := b47) hZ hown (own_w hw 20 rfl) (own_w hw 21 rfl) (notFace_of_selects (args := #[]) (mvT hZ (own_w hw 23 rfl))) (own_w hw 23 rfl) (own_w hw 22 rfl) (own_w hw 13 rfl) (own_w hw 24 rfl) (by decide) F62 (rm4_16 l Z a0 hw [] b47 k1 v1 w_NULL_KEY h50 n0 (own_sz Y50) F65 F68 F69 F70 F71 F62 (Nat.le_trans Z0 sz_b47) F72) (hb hby at_219) rfl (by rw [hml]; rfl) rfl (lenOf pd__ILjava_lang_Object_Ljava_lang_Object__V rfl) rfl (by decide) (by decide) rfl rfl (by decide) (by decide) P4_16_sz (own_fixR (S2 := []) rfl (fun T61 h61 Y61 R61 => ?_))
              obtain ⟨K61, G61_0, G61_1⟩ := R61
              refine own_iload Y61 hx (pc' := 224) (hb hby at_222) rfl rfl ?_
              refine own_iconst Y61 hx (pc' := 225) (x := (3 : Int32)) (hb hby at_224) rfl (by decide) ?_
              refine own_icmpNo Y61 hx (pc' := 228) (hb hby at_225) rfl (by decide) ?_
              refine own_aload Y61 hx (pc' := 230) (hb hby at_228) rfl rfl rfl ?_
              refine own_iconst Y61 hx (pc' := 231) (x := (2 : Int32)) (hb hby at_230) rfl (by decide) ?_
              refine own_aload Y61 hx (pc' := 233) (hb hby at_231) rfl rfl hr_k2 ?_
              refine own_aload Y61 hx (pc' := 235) (hb hby at_233) rfl rfl hr_v2 ?_
              have F74 := (own_E F62 K61)
              have F75 := (own_B (own_B F40 K34 (own_offS O37 own_off0)) K41 (own_offS O39 own_off0))
              have O76 := (own_offN F75 le47)
              have F77 := (own_B (own_B (own_B (own_B (own_B F40 K34 (own_offS O37 own_off0)) K41 (own_offS O39 own_off0)) K47 own_off0) K50 (own_offS O76 (own_offS O76 own_off0))) K61 (own_offS O76 (own_offS O76 own_off0)))
              have F78 := (own_B F46 K41 (own_offS O45 own_off0))
              have O79 := (own_offN F78 le47)
              have F80 := (own_B (own_B (own_B (own_B F46 K41 (own_offS O45 own_off0)) K47 own_off0) K50 (own_offS O79 (own_offS O79 own_off0))) K61 (own_offS O79 (own_offS O79 own_off0)))
              have F81 := (own_St F69 K61 (own_allS (own_plain F62) (own_allS (own_plain F62) own_all0)))
              have F82 := (own_E F70 K61)
              have F83 := (own_F (v := .null) (own_F (v := .null) (D47 (Or.inl (own_w hw 44 rfl)) (ty := (.object zs2)) (by decide)) K50 (own_nr (sl_6 hw) (own_nr (sl_7 hw) own_nin0))) K61 (own_nr (sl_12 hw) (own_nr (sl_13 hw) own_nin0)))
              have F84 := (own_F (v := .null) (own_F (v := .null) (D47 (Or.inl (own_w hw 46 rfl)) (ty := (.object zs2)) (by decide)) K50 (own_nr (sl_8 hw) (own_nr (sl_9 hw) own_nin0))) K61 (own_nr (sl_10 hw) (own_nr (sl_14 hw) own_nin0)))
              refine own_virtual Y61 hx (pc' := 238) (W := 0) (cl' := 9) (sl' := 25) (as' := [(.int (2 : Int32)), k2, v2]) (S' := []) (a := b47) hZ hown (own_w hw 20 rfl) (own_w hw 21 rfl) (notFace_of_selects (args := #[]) (mvT hZ (own_w hw 23 rfl))) (own_w hw 23 rfl) (own_w hw 22 rfl) (own_w hw 13 rfl) (own_w hw 24 rfl) (by decide) F74 (rm4_28 l Z a0 hw [] b47 k2 v2 w_NULL_KEY h61 n0 (own_sz Y61) F77 F80 F81 F82 F83 F74 (Nat.le_trans Z0 sz_b47) F84) (hb hby at_235) rfl (by rw [hml]; rfl) rfl (lenOf pd__ILjava_lang_Object_Ljava_lang_Object__V rfl) rfl (by decide) (by decide) rfl rfl (by decide) (by decide) P4_28_sz (own_fixR (S2 := []) rfl (fun T73 h73 Y73 R73 => ?_))
              obtain ⟨K73, G73_0, G73_1⟩ := R73
              refine own_aload Y73 hx (pc' := 240) (hb hby at_238) rfl rfl rfl ?_
              refine own_iload Y73 hx (pc' := 242) (hb hby at_240) rfl rfl ?_
              have F86 := (own_E F74 K73)
              have F87 := (own_B F77 K73 (own_offS O76 (own_offS O76 own_off0)))
              have F88 := (own_F (v := (.ref (own_sa w_NULL_KEY k1))) G61_0 K73 (own_nr (sl_25 hw) (own_nr (sl_26 hw) own_nin0)))
              have F89 := (own_B (own_B F65 K61 (own_offS O64 (own_offS O64 own_off0))) K73 (own_offS O64 (own_offS O64 own_off0)))
              have F90 := (own_B F80 K73 (own_offS O79 (own_offS O79 own_off0)))
              have F91 := (own_F (v := v1) G61_1 K73 (own_nr (sl_27 hw) (own_nr (sl_28 hw) own_nin0)))
              have F92 := (own_B (own_B F68 K61 (own_offS O67 (own_offS O67 own_off0))) K73 (own_offS O67 (own_offS O67 own_off0)))
              refine own_virtual Y73 hx (pc' := 245) (W := 0) (cl' := 9) (sl' := 25) (as' := [(.int (1 : Int32))]) (S' := []) (a := b47) hZ hown (own_w hw 38 rfl) (own_w hw 39 rfl) (notFace_of_selects (args := #[]) (mvT hZ (own_w hw 41 rfl))) (own_w hw 41 rfl) (own_w hw 40 rfl) (own_w hw 13 rfl) (own_w hw 42 rfl) (by decide) F86 (rm6_35 l Z a0 hw [] b47 w_NULL_KEY k2 k1 v2 v1 h73 n0 (own_sz Y73) F87 G73_0 F89 F88 F86 (Nat.le_trans Z0 sz_b47) F90 G73_1 F92 F91) (hb hby at_242) rfl (by rw [hml]; rfl) rfl (lenOf pd__I_V rfl) rfl (by decide) (by decide) rfl rfl (by decide) (by decide) P6_35_sz (own_fixR (S2 := []) rfl (fun T85 h85 Y85 R85 => ?_))
              obtain ⟨K85, G85_0, G85_1, G85_2, G85_3⟩ := R85
              refine own_iconst Y85 hx (pc' := 246) (x := (0 : Int32)) (hb hby at_245) rfl (by decide) ?_
              refine own_iload Y85 hx (pc' := 248) (hb hby at_246) rfl rfl ?_
              refine own_icmpNo Y85 hx (pc' := 251) (hb hby at_248) rfl (by decide) ?_
              refine own_iconst Y85 hx (pc' := 252) (x := (0 : Int32)) (hb hby at_251) rfl (by decide) ?_
              refine own_goto Y85 hx (pc' := 256) (hb hby at_252) (by decide) (by decide) ?_
              refine own_istore Y85 hx (pc' := 258) (Ls' := #[.val (.int p0), .val (.int p1), .val (.int p2), .val (.int p3), .val (.int p4), .val (.int p5), .val (.int (3 : Int32)), .val (.int (1 : Int32)), .val k0, .val k1, .val k2, .val v0, .val v1, .val v2, .val (.ref b7), .val (.ref b9), .val (.ref b47), .val (.int (0 : Int32)), .unset, .unset, .unset]) (hb hby at_256) rfl rfl ?_
              refine own_iconst Y85 hx (pc' := 259) (x := (1 : Int32)) (hb hby at_258) rfl (by decide) ?_
              refine own_iload Y85 hx (pc' := 261) (hb hby at_259) rfl rfl ?_
              refine own_icmpYes Y85 hx (pc' := 268) (hb hby at_261) (by decide) (by decide) (by decide) ?_
              refine own_iconst Y85 hx (pc' := 269) (x := (2 : Int32)) (hb hby at_268) rfl (by decide) ?_
              refine own_istore Y85 hx (pc' := 271) (Ls' := #[.val (.int p0), .val (.int p1), .val (.int p2), .val (.int p3), .val (.int p4), .val (.int p5), .val (.int (3 : Int32)), .val (.int (1 : Int32)), .val k0, .val k1, .val k2, .val v0, .val v1, .val v2, .val (.ref b7), .val (.ref b9), .val (.ref b47), .val (.int (0 : Int32)), .val (.int (2 : Int32)), .unset, .unset]) (hb hby at_269) rfl rfl ?_
              refine own_iconst Y85 hx (pc' := 272) (x := (2 : Int32)) (hb hby at_271) rfl (by decide) ?_
              refine own_iload Y85 hx (pc' := 274) (hb hby at_272) rfl rfl ?_
              refine own_icmpYes Y85 hx (pc' := 281) (hb hby at_274) (by decide) (by decide) (by decide) ?_
              refine own_iconst Y85 hx (pc' := 282) (x := (3 : Int32)) (hb hby at_281) rfl (by decide) ?_
              refine own_istore Y85 hx (pc' := 284) (Ls' := #[.val (.int p0), .val (.int p1), .val (.int p2), .val (.int p3), .val (.int p4), .val (.int p5), .val (.int (3 : Int32)), .val (.int (1 : Int32)), .val k0, .val k1, .val k2, .val v0, .val v1, .val v2, .val (.ref b7), .val (.ref b9), .val (.ref b47), .val (.int (0 : Int32)), .val (.int (2 : Int32)), .val (.int (3 : Int32)), .unset]) (hb hby at_282) rfl rfl ?_
              refine own_aload Y85 hx (pc' := 286) (hb hby at_284) rfl rfl rfl ?_
              have F94 := (own_E F86 K85)
              have F95 := (own_F (v := (.ref (own_sa w_NULL_KEY k0))) (own_F (v := (.ref (own_sa w_NULL_KEY k0))) (own_F (v := (.ref (own_sa w_NULL_KEY k0))) G50_0 K61 (own_nr (sl_16 hw) (own_nr (sl_17 hw) own_nin0))) K73 (own_nr (sl_18 hw) (own_nr (sl_19 hw) own_nin0))) K85 (own_nr (sl_16 hw) (own_nr (sl_17 hw) (own_nr (sl_18 hw) (own_nr (sl_19 hw) own_nin0)))))
              have F96 := (own_B (own_B (own_B (own_B (own_B (own_B F13 K11 (own_offS O52 own_off0)) K14 (own_offS O54 own_off0)) K20 (own_offS O52 own_off0)) K27 (own_offS O54 own_off0)) K34 (own_offS O52 own_off0)) K41 (own_offS O54 own_off0))
              have O97 := (own_offN F96 le47)
              have F98 := (own_B (own_B (own_B (own_B F55 K50 (own_offS O97 (own_offS O97 own_off0))) K61 (own_offS O97 (own_offS O97 own_off0))) K73 (own_offS O97 (own_offS O97 own_off0))) K85 (own_offS O97 (own_offS O97 (own_offS O97 (own_offS O97 own_off0)))))
              have F99 := (own_B F87 K85 (own_offS O76 (own_offS O76 (own_offS O76 (own_offS O76 own_off0)))))
              refine own_virtual Y85 hx (pc' := 289) (W := 0) (cl' := 9) (sl' := 25) (as' := []) (S' := []) (a := b47) hZ hown (own_w hw 47 rfl) (own_w hw 48 rfl) (notFace_of_selects (args := #[]) (mvT hZ (own_w hw 50 rfl))) (own_w hw 50 rfl) (own_w hw 49 rfl) (own_w hw 13 rfl) (own_w hw 51 rfl) (by decide) F94 (rm7_36 l Z a0 hw [] b47 w_NULL_KEY k0 k2 h85 n0 (own_sz Y85) F98 F95 F99 G85_0 G85_2) (hb hby at_286) rfl (by rw [hml]; rfl) rfl (lenOf pd___I rfl) rfl (by decide) (by decide) rfl rfl (by decide) (by decide) own_Same.sz (own_fixS (S2 := [(.int (2 : Int32))]) rfl (fun T93 Y93 => ?_))
              refine own_iload Y93 hx (pc' := 291) (hb hby at_289) rfl rfl ?_
              refine own_iconst Y93 hx (pc' := 292) (x := (1 : Int32)) (hb hby at_291) rfl (by decide) ?_
              refine own_isub Y93 hx (pc' := 293) (hb hby at_292) rfl (z := (2 : Int32)) (by decide) ?_
              refine own_icmpNo Y93 hx (pc' := 296) (hb hby at_293) rfl (by decide) ?_
              refine own_iconst Y93 hx (pc' := 297) (x := (1 : Int32)) (hb hby at_296) rfl (by decide) ?_
              refine own_goto Y93 hx (pc' := 301) (hb hby at_297) (by decide) (by decide) ?_
              refine own_istore Y93 hx (pc' := 303) (Ls' := #[.val (.int p0), .val (.int p1), .val (.int p2), .val (.int p3), .val (.int p4), .val (.int p5), .val (.int (3 : Int32)), .val (.int (1 : Int32)), .val k0, .val k1, .val k2, .val v0, .val v1, .val v2, .val (.ref b7), .val (.ref b9), .val (.ref b47), .val (.int (0 : Int32)), .val (.int (2 : Int32)), .val (.int (3 : Int32)), .val (.int (1 : Int32))]) (hb hby at_301) rfl rfl ?_
              refine own_iload Y93 hx (pc' := 305) (hb hby at_303) rfl rfl ?_
              refine own_ifNo Y93 hx (pc' := 308) (hb hby at_305) rfl (by decide) ?_
              refine own_aload Y93 hx (pc' := 310) (hb hby at_308) rfl rfl rfl ?_
              refine own_iconst Y93 hx (pc' := 311) (x := (0 : Int32)) (hb hby at_310) rfl (by decide) ?_
              have F101 := (own_E (own_E F82 K73) K85)
              have F102 := (own_St (own_St F81 K73 (own_allS (own_plain F74) (own_allS (own_plain F74) own_all0))) K85 (own_allS (own_plain F86) (own_allS (own_plain F86) (own_allS (own_plain F86) (own_allS (own_plain F86) own_all0)))))
              refine own_virtual Y93 hx (pc' := 314) (W := 0) (cl' := 9) (sl' := 25) (as' := [(.int (0 : Int32))]) (S' := []) (a := b47) hZ hown (own_w hw 52 rfl) (own_w hw 53 rfl) (notFace_of_selects (args := #[]) (mvT hZ (own_w hw 55 rfl))) (own_w hw 55 rfl) (own_w hw 54 rfl) (own_w hw 13 rfl) (own_w hw 56 rfl) (by decide) F94 (rm8_37 l Z a0 hw [] b47 w_NULL_KEY k0 h85 n0 (own_sz Y93) F98 F95 F101 F102) (hb hby at_311) rfl (by rw [hml]; rfl) rfl (lenOf pd__I_Ljava_lang_Object_ rfl) rfl (by decide) (by decide) rfl rfl (by decide) (by decide) own_Same.sz (own_fixS (S2 := [k0]) rfl (fun T100 Y100 => ?_))
              refine own_castB Y100 hx (pc' := 317) hZ hown (own_w hw 8 rfl) F98 (hb hby at_314) rfl (fun T103 Y103 => ?_)
              refine own_aload Y103 hx (pc' := 319) (hb hby at_317) rfl rfl rfl ?_
              refine own_iload Y103 hx (pc' := 321) (hb hby at_319) rfl rfl ?_
              have F105 := (own_A V34 K41 (own_out D15 own_out0))
              have D106 : b7 ≠ b47 := (Nat.ne_of_lt (Nat.lt_of_lt_of_le F105.lt le47))
              have F107 := (own_A (own_A (own_A (own_A (own_A (own_A V34 K41 (own_out D15 own_out0)) K47 own_out0) K50 (own_out D106 (own_out D106 own_out0))) K61 (own_out D106 (own_out D106 own_out0))) K73 (own_out D106 (own_out D106 own_out0))) K85 (own_out D106 (own_out D106 (own_out D106 (own_out D106 own_out0)))))
              refine own_aald Y103 hx (pc' := 322) (v := k0) hZ F107 (by decide) rfl rfl (hb hby at_321) rfl ?_
              refine own_static Y103 hx (pc' := 325) (W := 0) (cl' := 9) (sl' := 25) (as' := [k0, k0]) (S' := []) hZ hown (own_w hw 60 rfl) (own_w hw 61 rfl) (own_w hw 62 rfl) (own_w hw 63 rfl) (by decide) (rm10_22 l Z a0 hw [] k0 h85 n0 (own_sz Y103) F98) (hb hby at_322) rfl (by rw [hml]; rfl) rfl (lenOf pd__Ljava_lang_Integer_Ljava_lang_Integer__Z rfl) rfl (by decide) (by decide) rfl rfl (by decide) (by decide) own_Same.sz (own_fixS (S2 := [(.int (1 : Int32))]) rfl (fun T108 Y108 => ?_))
              refine own_ifNo Y108 hx (pc' := 328) (hb hby at_325) rfl (by decide) ?_
              refine own_iconst Y108 hx (pc' := 329) (x := (1 : Int32)) (hb hby at_328) rfl (by decide) ?_
              refine own_goto Y108 hx (pc' := 333) (hb hby at_329) (by decide) (by decide) ?_
              refine own_istore Y108 hx (pc' := 335) (Ls' := #[.val (.int p0), .val (.int p1), .val (.int p2), .val (.int p3), .val (.int p4), .val (.int p5), .val (.int (3 : Int32)), .val (.int (1 : Int32)), .val k0, .val k1, .val k2, .val v0, .val v1, .val v2, .val (.ref b7), .val (.ref b9), .val (.ref b47), .val (.int (0 : Int32)), .val (.int (2 : Int32)), .val (.int (3 : Int32)), .val (.int (1 : Int32))]) (hb hby at_333) rfl rfl ?_
              refine own_iload Y108 hx (pc' := 337) (hb hby at_335) rfl rfl ?_
              refine own_ifNo Y108 hx (pc' := 340) (hb hby at_337) rfl (by decide) ?_
              refine own_aload Y108 hx (pc' := 342) (hb hby at_340) rfl rfl rfl ?_
              refine own_iconst Y108 hx (pc' := 343) (x := (1 : Int32)) (hb hby at_342) rfl (by decide) ?_
              refine own_virtual Y108 hx (pc' := 346) (W := 0) (cl' := 9) (sl' := 25) (as' := [(.int (1 : Int32))]) (S' := []) (a := b47) hZ hown (own_w hw 52 rfl) (own_w hw 53 rfl) (notFace_of_selects (args := #[]) (mvT hZ (own_w hw 55 rfl))) (own_w hw 55 rfl) (own_w hw 54 rfl) (own_w hw 13 rfl) (own_w hw 56 rfl) (by decide) F94 (rm8_38 l Z a0 hw [] b47 w_NULL_KEY k2 h85 n0 (own_sz Y108) F99 G85_0 F101 F102) (hb hby at_343) rfl (by rw [hml]; rfl) rfl (lenOf pd__I_Ljava_lang_Object_ rfl) rfl (by decide) (by decide) rfl rfl (by decide) (by decide) own_Same.sz (own_fixS (S2 := [k2]) rfl (fun T109 Y109 => ?_))
              refine own_castB Y109 hx (pc' := 349) hZ hown (own_w hw 8 rfl) F99 (hb hby at_346) rfl (fun T110 Y110 => ?_)
              refine own_aload Y110 hx (pc' := 351) (hb hby at_349) rfl rfl rfl ?_
              refine own_iload Y110 hx (pc' := 353) (hb hby at_351) rfl rfl ?_
              refine own_aald Y110 hx (pc' := 354) (v := k2) hZ F107 (by decide) rfl rfl (hb hby at_353) rfl ?_
              refine own_static Y110 hx (pc' := 357) (W := 0) (cl' := 9) (sl' := 25) (as' := [k2, k2]) (S' := []) hZ hown (own_w hw 60 rfl) (own_w hw 61 rfl) (own_w hw 62 rfl) (own_w hw 63 rfl) (by decide) (rm10_22 l Z a0 hw [] k2 h85 n0 (own_sz Y110) F99) (hb hby at_354) rfl (by rw [hml]; rfl) rfl (lenOf pd__Ljava_lang_Integer_Ljava_lang_Integer__Z rfl) rfl (by decide) (by decide) rfl rfl (by decide) (by decide) own_Same.sz (own_fixS (S2 := [(.int (1 : Int32))]) rfl (fun T112 Y112 => ?_))
              refine own_ifNo Y112 hx (pc' := 360) (hb hby at_357) rfl (by decide) ?_
              refine own_iconst Y112 hx (pc' := 361) (x := (1 : Int32)) (hb hby at_360) rfl (by decide) ?_
              refine own_goto Y112 hx (pc' := 365) (hb hby at_361) (by decide) (by decide) ?_
              refine own_istore Y112 hx (pc' := 367) (Ls' := #[.val (.int p0), .val (.int p1), .val (.int p2), .val (.int p3), .val (.int p4), .val (.int p5), .val (.int (3 : Int32)), .val (.int (1 : Int32)), .val k0, .val k1, .val k2, .val v0, .val v1, .val v2, .val (.ref b7), .val (.ref b9), .val (.ref b47), .val (.int (0 : Int32)), .val (.int (2 : Int32)), .val (.int (3 : Int32)), .val (.int (1 : Int32))]) (hb hby at_365) rfl rfl ?_
              refine own_iload Y112 hx (pc' := 369) (hb hby at_367) rfl rfl ?_
              refine own_ifNo Y112 hx (pc' := 372) (hb hby at_369) rfl (by decide) ?_
              refine own_aload Y112 hx (pc' := 374) (hb hby at_372) rfl rfl rfl ?_
              refine own_iconst Y112 hx (pc' := 375) (x := (0 : Int32)) (hb hby at_374) rfl (by decide) ?_
              have F114 := (own_F (v := v0) (own_F (v := v0) (own_F (v := v0) G50_1 K61 (own_nr (sl_20 hw) (own_nr (sl_21 hw) own_nin0))) K73 (own_nr (sl_22 hw) (own_nr (sl_23 hw) own_nin0))) K85 (own_nr (sl_20 hw) (own_nr (sl_21 hw) (own_nr (sl_22 hw) (own_nr (sl_23 hw) own_nin0)))))
              have F115 := (own_B (own_B (own_B (own_B (own_B F19 K14 (own_offS O57 own_off0)) K20 (own_offS O18 own_off0)) K27 (own_offS O57 own_off0)) K34 (own_offS O18 own_off0)) K41 (own_offS O57 own_off0))
              have O116 := (own_offN F115 le47)
              have F117 := (own_B (own_B (own_B (own_B F58 K50 (own_offS O116 (own_offS O116 own_off0))) K61 (own_offS O116 (own_offS O116 own_off0))) K73 (own_offS O116 (own_offS O116 own_off0))) K85 (own_offS O116 (own_offS O116 (own_offS O116 (own_offS O116 own_off0)))))
              refine own_virtual Y112 hx (pc' := 378) (W := 0) (cl' := 9) (sl' := 25) (as' := [(.int (0 : Int32))]) (S' := []) (a := b47) hZ hown (own_w hw 64 rfl) (own_w hw 65 rfl) (notFace_of_selects (args := #[]) (mvT hZ (own_w hw 67 rfl))) (own_w hw 67 rfl) (own_w hw 66 rfl) (own_w hw 13 rfl) (own_w hw 68 rfl) (by decide) F94 (rm11_39 l Z a0 hw [] b47 v0 h85 n0 (own_sz Y112) F117 F114) (hb hby at_375) rfl (by rw [hml]; rfl) rfl (lenOf pd__I_Ljava_lang_Object_ rfl) rfl (by decide) (by decide) rfl rfl (by decide) (by decide) own_Same.sz (own_fixS (S2 := [v0]) rfl (fun T113 Y113 => ?_))
              refine own_castB Y113 hx (pc' := 381) hZ hown (own_w hw 8 rfl) F117 (hb hby at_378) rfl (fun T118 Y118 => ?_)
              refine own_aload Y118 hx (pc' := 383) (hb hby at_381) rfl rfl rfl ?_
              refine own_iload Y118 hx (pc' := 385) (hb hby at_383) rfl rfl ?_
              have D120 : b9 ≠ b47 := (Nat.ne_of_lt (Nat.lt_of_lt_of_le V41.lt le47))
              have F121 := (own_A (own_A (own_A (own_A (own_A V41 K47 own_out0) K50 (own_out D120 (own_out D120 own_out0))) K61 (own_out D120 (own_out D120 own_out0))) K73 (own_out D120 (own_out D120 own_out0))) K85 (own_out D120 (own_out D120 (own_out D120 (own_out D120 own_out0)))))
              refine own_aald Y118 hx (pc' := 386) (v := v0) hZ F121 (by decide) rfl rfl (hb hby at_385) rfl ?_
              refine own_static Y118 hx (pc' := 389) (W := 0) (cl' := 9) (sl' := 25) (as' := [v0, v0]) (S' := []) hZ hown (own_w hw 60 rfl) (own_w hw 61 rfl) (own_w hw 62 rfl) (own_w hw 63 rfl) (by decide) (rm10_22 l Z a0 hw [] v0 h85 n0 (own_sz Y118) F117) (hb hby at_386) rfl (by rw [hml]; rfl) rfl (lenOf pd__Ljava_lang_Integer_Ljava_lang_Integer__Z rfl) rfl (by decide) (by decide) rfl rfl (by decide) (by decide) own_Same.sz (own_fixS (S2 := [(.int (1 : Int32))]) rfl (fun T122 Y122 => ?_))
              refine own_ifNo Y122 hx (pc' := 392) (hb hby at_389) rfl (by decide) ?_
              refine own_iconst Y122 hx (pc' := 393) (x := (1 : Int32)) (hb hby at_392) rfl (by decide) ?_
              refine own_goto Y122 hx (pc' := 397) (hb hby at_393) (by decide) (by decide) ?_
              refine own_istore Y122 hx (pc' := 399) (Ls' := #[.val (.int p0), .val (.int p1), .val (.int p2), .val (.int p3), .val (.int p4), .val (.int p5), .val (.int (3 : Int32)), .val (.int (1 : Int32)), .val k0, .val k1, .val k2, .val v0, .val v1, .val v2, .val (.ref b7), .val (.ref b9), .val (.ref b47), .val (.int (0 : Int32)), .val (.int (2 : Int32)), .val (.int (3 : Int32)), .val (.int (1 : Int32))]) (hb hby at_397) rfl rfl ?_
              refine own_iload Y122 hx (pc' := 401) (hb hby at_399) rfl rfl ?_
              refine own_ifNo Y122 hx (pc' := 404) (hb hby at_401) rfl (by decide) ?_
              refine own_aload Y122 hx (pc' := 406) (hb hby at_404) rfl rfl rfl ?_
              refine own_iconst Y122 hx (pc' := 407) (x := (1 : Int32)) (hb hby at_406) rfl (by decide) ?_
              have F124 := (own_B F90 K85 (own_offS O79 (own_offS O79 (own_offS O79 (own_offS O79 own_off0)))))
              refine own_virtual Y122 hx (pc' := 410) (W := 0) (cl' := 9) (sl' := 25) (as' := [(.int (1 : Int32))]) (S' := []) (a := b47) hZ hown (own_w hw 64 rfl) (own_w hw 65 rfl) (notFace_of_selects (args := #[]) (mvT hZ (own_w hw 67 rfl))) (own_w hw 67 rfl) (own_w hw 66 rfl) (own_w hw 13 rfl) (own_w hw 68 rfl) (by decide) F94 (rm11_40 l Z a0 hw [] b47 v2 h85 n0 (own_sz Y122) F124 G85_1) (hb hby at_407) rfl (by rw [hml]; rfl) rfl (lenOf pd__I_Ljava_lang_Object_ rfl) rfl (by decide) (by decide) rfl rfl (by decide) (by decide) own_Same.sz (own_fixS (S2 := [v2]) rfl (fun T123 Y123 => ?_))
              refine own_castB Y123 hx (pc' := 413) hZ hown (own_w hw 8 rfl) F124 (hb hby at_410) rfl (fun T125 Y125 => ?_)
              refine own_aload Y125 hx (pc' := 415) (hb hby at_413) rfl rfl rfl ?_
              refine own_iload Y125 hx (pc' := 417) (hb hby at_415) rfl rfl ?_
              refine own_aald Y125 hx (pc' := 418) (v := v2) hZ F121 (by decide) rfl rfl (hb hby at_417) rfl ?_
              refine own_static Y125 hx (pc' := 421) (W := 0) (cl' := 9) (sl' := 25) (as' := [v2, v2]) (S' := []) hZ hown (own_w hw 60 rfl) (own_w hw 61 rfl) (own_w hw 62 rfl) (own_w hw 63 rfl) (by decide) (rm10_22 l Z a0 hw [] v2 h85 n0 (own_sz Y125) F124) (hb hby at_418) rfl (by rw [hml]; rfl) rfl (lenOf pd__Ljava_lang_Integer_Ljava_lang_Integer__Z rfl) rfl (by decide) (by decide) rfl rfl (by decide) (by decide) own_Same.sz (own_fixS (S2 := [(.int (1 : Int32))]) rfl (fun T127 Y127 => ?_))
              refine own_ifNo Y127 hx (pc' := 424) (hb hby at_421) rfl (by decide) ?_
              refine own_iconst Y127 hx (pc' := 425) (x := (1 : Int32)) (hb hby at_424) rfl (by decide) ?_
              refine own_goto Y127 hx (pc' := 429) (hb hby at_425) (by decide) (by decide) ?_
              refine own_istore Y127 hx (pc' := 431) (Ls' := #[.val (.int p0), .val (.int p1), .val (.int p2), .val (.int p3), .val (.int p4), .val (.int p5), .val (.int (3 : Int32)), .val (.int (1 : Int32)), .val k0, .val k1, .val k2, .val v0, .val v1, .val v2, .val (.ref b7), .val (.ref b9), .val (.ref b47), .val (.int (0 : Int32)), .val (.int (2 : Int32)), .val (.int (3 : Int32)), .val (.int (1 : Int32))]) (hb hby at_429) rfl rfl ?_
              refine own_iload Y127 hx (pc' := 433) (hb hby at_431) rfl rfl ?_
              refine own_ifNo Y127 hx (pc' := 436) (hb hby at_433) rfl (by decide) ?_
              refine own_aload Y127 hx (pc' := 438) (hb hby at_436) rfl rfl rfl ?_
              refine own_iconst Y127 hx (pc' := 439) (x := (2 : Int32)) (hb hby at_438) rfl (by decide) ?_
              refine own_virtual Y127 hx (pc' := 442) (W := 0) (cl' := 9) (sl' := 25) (as' := [(.int (2 : Int32))]) (S' := []) (a := b47) hZ hown (own_w hw 64 rfl) (own_w hw 65 rfl) (notFace_of_selects (args := #[]) (mvT hZ (own_w hw 67 rfl))) (own_w hw 67 rfl) (own_w hw 66 rfl) (own_w hw 13 rfl) (own_w hw 68 rfl) (by decide) F94 (rm11_12 l Z a0 hw [] b47 h85 n0 (own_sz Y127) G85_3) (hb hby at_439) rfl (by rw [hml]; rfl) rfl (lenOf pd__I_Ljava_lang_Object_ rfl) rfl (by decide) (by decide) rfl rfl (by decide) (by decide) own_Same.sz (own_fixS (S2 := [.null]) rfl (fun T128 Y128 => ?_))
              refine own_castNull Y128 hx (pc' := 445) (hb hby at_442) rfl ?_
              refine own_aload Y128 hx (pc' := 447) (hb hby at_445) rfl rfl rfl ?_
              refine own_iload Y128 hx (pc' := 449) (hb hby at_447) rfl rfl ?_
              refine own_aald Y128 hx (pc' := 450) (v := .null) hZ F121 (by decide) rfl rfl (hb hby at_449) rfl ?_
              refine own_static Y128 hx (pc' := 453) (W := 0) (cl' := 9) (sl' := 25) (as' := [.null, .null]) (S' := []) hZ hown (own_w hw 60 rfl) (own_w hw 61 rfl) (own_w hw 62 rfl) (own_w hw 63 rfl) (by decide) (rm10_8 l Z a0 hw []  h85 n0 (own_sz Y128)) (hb hby at_450) rfl (by rw [hml]; rfl) rfl (lenOf pd__Ljava_lang_Integer_Ljava_lang_Integer__Z rfl) rfl (by decide) (by decide) rfl rfl (by decide) (by decide) own_Same.sz (own_fixS (S2 := [(.int (1 : Int32))]) rfl (fun T130 Y130 => ?_))
              refine own_ifNo Y130 hx (pc' := 456) (hb hby at_453) rfl (by decide) ?_
              refine own_iconst Y130 hx (pc' := 457) (x := (1 : Int32)) (hb hby at_456) rfl (by decide) ?_
              refine own_goto Y130 hx (pc' := 461) (hb hby at_457) (by decide) (by decide) ?_
              refine own_istore Y130 hx (pc' := 463) (Ls' := #[.val (.int p0), .val (.int p1), .val (.int p2), .val (.int p3), .val (.int p4), .val (.int p5), .val (.int (3 : Int32)), .val (.int (1 : Int32)), .val k0, .val k1, .val k2, .val v0, .val v1, .val v2, .val (.ref b7), .val (.ref b9), .val (.ref b47), .val (.int (0 : Int32)), .val (.int (2 : Int32)), .val (.int (3 : Int32)), .val (.int (1 : Int32))]) (hb hby at_461) rfl rfl ?_
              refine own_iload Y130 hx (pc' := 465) (hb hby at_463) rfl rfl ?_
              exact own_retN Y130 hx hlk Bd.returns rfl (by simp) (hb hby at_465) ⟨rfl, trivial⟩ (by decide) (by decide)
            by_cases qF131 : (p5 &&& (32 : Int32)) = (0 : Int32)
            ·
              refine own_ifYes Y5 hx (pc' := 120) (hb hby at_113) ((if0 _ _).trans (teq qF131).1) (by decide) (by decide) ?_
              refine own_bipush Y5 hx (pc' := 122) (x := (-3 : Int32)) (hb hby at_120) rfl (by decide) ?_
              have F133 := (own_St (own_St (own_St (own_St (own_St S_high K1 own_all0) K2 own_all0) K3 own_all0) K4 own_all0) K5 own_all0)
              have F134 := (own_St (own_St (own_St (own_St (own_St S_cache K1 own_all0) K2 own_all0) K3 own_all0) K4 own_all0) K5 own_all0)
              have F135 := (own_CacheK (own_CacheK (own_CacheK (own_CacheK (own_CacheK H_cache K1) K2) K3) K4) K5)
              refine own_static Y5 hx (pc' := 125) (W := 0) (cl' := 6) (sl' := 6) (as' := [(.int (-3 : Int32))]) (S' := []) hZ hown (own_w hw 1 rfl) (own_w hw 2 rfl) (own_w hw 3 rfl) (own_w hw 4 rfl) (by decide) (rm1_15 l Z a0 hw [] (-3 : Int32) w_cache h5 n0 (own_sz Y5) F133 F134 F135) (hb hby at_122) rfl (by rw [hml]; rfl) rfl (lenOf pd__I_Ljava_lang_Integer_ rfl) rfl (by decide) (by decide) rfl rfl (by decide) (by decide) own_PV_sz (fun T132 h132 v132 Y132 R132 => ?_)
              obtain ⟨b132_0, rfl, K132, E132, F132⟩ := R132
              show own_Fin p e below _ (T132.setTop (mkF m 125 #[.val (.int p0), .val (.int p1), .val (.int p2), .val (.int p3), .val (.int p4), .val (.int p5), .val (.int (3 : Int32)), .val (.int (1 : Int32)), .val k0, .val k1, .val k2, .val v0, .val v1, .unset, .unset, .unset, .unset, .unset, .unset, .unset, .unset] [(.ref b132_0)]))
              exact J125 _ _ _ Y132 K132 (Or.inr ⟨b132_0, _, rfl, E132, F132⟩)
            ·
              refine own_ifNo Y5 hx (pc' := 116) (hb hby at_113) rfl ((if0 _ _).trans (feq qF131).1) ?_
              refine own_aconstNull Y5 hx (pc' := 117) (hb hby at_116) rfl ?_
              refine own_goto Y5 hx (pc' := 125) (hb hby at_117) (by decide) (by decide) ?_
              exact J125 _ _ .null (own_more Y5 (by decide) (by decide)) (own_Kp.refl _ _) (Or.inl rfl)
          by_cases qF136 : (p5 &&& (16 : Int32)) = (0 : Int32)
          ·
            refine own_ifYes Y4 hx (pc' := 101) (hb hby at_94) ((if0 _ _).trans (teq qF136).1) (by decide) (by decide) ?_
            refine own_bipush Y4 hx (pc' := 103) (x := (-2 : Int32)) (hb hby at_101) rfl (by decide) ?_
            have F138 := (own_St (own_St (own_St (own_St S_high K1 own_all0) K2 own_all0) K3 own_all0) K4 own_all0)
            have F139 := (own_St (own_St (own_St (own_St S_cache K1 own_all0) K2 own_all0) K3 own_all0) K4 own_all0)
            have F140 := (own_CacheK (own_CacheK (own_CacheK (own_CacheK H_cache K1) K2) K3) K4)
            refine own_static Y4 hx (pc' := 106) (W := 0) (cl' := 5) (sl' := 5) (as' := [(.int (-2 : Int32))]) (S' := []) hZ hown (own_w hw 1 rfl) (own_w hw 2 rfl) (own_w hw 3 rfl) (own_w hw 4 rfl) (by decide) (rm1_15 l Z a0 hw [] (-2 : Int32) w_cache h4 n0 (own_sz Y4) F138 F139 F140) (hb hby at_103) rfl (by rw [hml]; rfl) rfl (lenOf pd__I_Ljava_lang_Integer_ rfl) rfl (by decide) (by decide) rfl rfl (by decide) (by decide) own_PV_sz (fun T137 h137 v137 Y137 R137 => ?_)
            obtain ⟨b137_0, rfl, K137, E137, F137⟩ := R137
            show own_Fin p e below _ (T137.setTop (mkF m 106 #[.val (.int p0), .val (.int p1), .val (.int p2), .val (.int p3), .val (.int p4), .val (.int p5), .val (.int (3 : Int32)), .val (.int (1 : Int32)), .val k0, .val k1, .val k2, .val v0, .unset, .unset, .unset, .unset, .unset, .unset, .unset, .unset, .unset] [(.ref b137_0)]))
            exact J106 _ _ _ Y137 K137 (Or.inr ⟨b137_0, _, rfl, E137, F137⟩)
          ·
            refine own_ifNo Y4 hx (pc' := 97) (hb hby at_94) rfl ((if0 _ _).trans (feq qF136).1) ?_
            refine own_aconstNull Y4 hx (pc' := 98) (hb hby at_97) rfl ?_
            refine own_goto Y4 hx (pc' := 106) (hb hby at_98) (by decide) (by decide) ?_
            exact J106 _ _ .null (own_more Y4 (by decide) (by decide)) (own_Kp.refl _ _) (Or.inl rfl)
        by_cases qF141 : (p5 &&& (8 : Int32)) = (0 : Int32)
        ·
          refine own_ifYes Y3 hx (pc' := 83) (hb hby at_76) ((if0 _ _).trans (teq qF141).1) (by decide) (by decide) ?_
          refine own_iconst Y3 hx (pc' := 84) (x := (-1 : Int32)) (hb hby at_83) rfl (by decide) ?_
          have F143 := (own_St (own_St (own_St S_high K1 own_all0) K2 own_all0) K3 own_all0)
          have F144 := (own_St (own_St (own_St S_cache K1 own_all0) K2 own_all0) K3 own_all0)
          have F145 := (own_CacheK (own_CacheK (own_CacheK H_cache K1) K2) K3)
          refine own_static Y3 hx (pc' := 87) (W := 0) (cl' := 4) (sl' := 4) (as' := [(.int (-1 : Int32))]) (S' := []) hZ hown (own_w hw 1 rfl) (own_w hw 2 rfl) (own_w hw 3 rfl) (own_w hw 4 rfl) (by decide) (rm1_15 l Z a0 hw [] (-1 : Int32) w_cache h3 n0 (own_sz Y3) F143 F144 F145) (hb hby at_84) rfl (by rw [hml]; rfl) rfl (lenOf pd__I_Ljava_lang_Integer_ rfl) rfl (by decide) (by decide) rfl rfl (by decide) (by decide) own_PV_sz (fun T142 h142 v142 Y142 R142 => ?_)
          obtain ⟨b142_0, rfl, K142, E142, F142⟩ := R142
          show own_Fin p e below _ (T142.setTop (mkF m 87 #[.val (.int p0), .val (.int p1), .val (.int p2), .val (.int p3), .val (.int p4), .val (.int p5), .val (.int (3 : Int32)), .val (.int (1 : Int32)), .val k0, .val k1, .val k2, .unset, .unset, .unset, .unset, .unset, .unset, .unset, .unset, .unset, .unset] [(.ref b142_0)]))
          exact J87 _ _ _ Y142 K142 (Or.inr ⟨b142_0, _, rfl, E142, F142⟩)
        ·
          refine own_ifNo Y3 hx (pc' := 79) (hb hby at_76) rfl ((if0 _ _).trans (feq qF141).1) ?_
          refine own_aconstNull Y3 hx (pc' := 80) (hb hby at_79) rfl ?_
          refine own_goto Y3 hx (pc' := 87) (hb hby at_80) (by decide) (by decide) ?_
          exact J87 _ _ .null (own_more Y3 (by decide) (by decide)) (own_Kp.refl _ _) (Or.inl rfl)
      by_cases qF146 : (p5 &&& (4 : Int32)) = (0 : Int32)
      ·
        refine own_ifYes Y2 hx (pc' := 65) (hb hby at_58) ((if0 _ _).trans (teq qF146).1) (by decide) (by decide) ?_
        refine own_iloadN Y2 hx (pc' := 66) (hb hby at_65) rfl rfl ?_
        have F148 := (own_St (own_St S_high K1 own_all0) K2 own_all0)
        have F149 := (own_St (own_St S_cache K1 own_all0) K2 own_all0)
        have F150 := (own_CacheK (own_CacheK H_cache K1) K2)
        refine own_static Y2 hx (pc' := 69) (W := 0) (cl' := 3) (sl' := 3) (as' := [(.int p2)]) (S' := []) hZ hown (own_w hw 1 rfl) (own_w hw 2 rfl) (own_w hw 3 rfl) (own_w hw 4 rfl) (by decide) (rm1_15 l Z a0 hw [] p2 w_cache h2 n0 (own_sz Y2) F148 F149 F150) (hb hby at_66) rfl (by rw [hml]; rfl) rfl (lenOf pd__I_Ljava_lang_Integer_ rfl) rfl (by decide) (by decide) rfl rfl (by decide) (by decide) own_PV_sz (fun T147 h147 v147 Y147 R147 => ?_)
        obtain ⟨b147_0, rfl, K147, E147, F147⟩ := R147
        show own_Fin p e below _ (T147.setTop (mkF m 69 #[.val (.int p0), .val (.int p1), .val (.int p2), .val (.int p3), .val (.int p4), .val (.int p5), .val (.int (3 : Int32)), .val (.int (1 : Int32)), .val k0, .val k1, .unset, .unset, .unset, .unset, .unset, .unset, .unset, .unset, .unset, .unset, .unset] [(.ref b147_0)]))
        exact J69 _ _ _ Y147 K147 (Or.inr ⟨b147_0, _, rfl, E147, F147⟩)
      ·
        refine own_ifNo Y2 hx (pc' := 61) (hb hby at_58) rfl ((if0 _ _).trans (feq qF146).1) ?_
        refine own_aconstNull Y2 hx (pc' := 62) (hb hby at_61) rfl ?_
        refine own_goto Y2 hx (pc' := 69) (hb hby at_62) (by decide) (by decide) ?_
        exact J69 _ _ .null (own_more Y2 (by decide) (by decide)) (own_Kp.refl _ _) (Or.inl rfl)
    by_cases qF151 : (p5 &&& (2 : Int32)) = (0 : Int32)
    ·
      refine own_ifYes Y1 hx (pc' := 48) (hb hby at_41) ((if0 _ _).trans (teq qF151).1) (by decide) (by decide) ?_
      refine own_iloadN Y1 hx (pc' := 49) (hb hby at_48) rfl rfl ?_
      have F153 := (own_St S_high K1 own_all0)
      have F154 := (own_St S_cache K1 own_all0)
      have F155 := (own_CacheK H_cache K1)
      refine own_static Y1 hx (pc' := 52) (W := 0) (cl' := 2) (sl' := 2) (as' := [(.int p1)]) (S' := []) hZ hown (own_w hw 1 rfl) (own_w hw 2 rfl) (own_w hw 3 rfl) (own_w hw 4 rfl) (by decide) (rm1_15 l Z a0 hw [] p1 w_cache h1 n0 (own_sz Y1) F153 F154 F155) (hb hby at_49) rfl (by rw [hml]; rfl) rfl (lenOf pd__I_Ljava_lang_Integer_ rfl) rfl (by decide) (by decide) rfl rfl (by decide) (by decide) own_PV_sz (fun T152 h152 v152 Y152 R152 => ?_)
      obtain ⟨b152_0, rfl, K152, E152, F152⟩ := R152
      show own_Fin p e below _ (T152.setTop (mkF m 52 #[.val (.int p0), .val (.int p1), .val (.int p2), .val (.int p3), .val (.int p4), .val (.int p5), .val (.int (3 : Int32)), .val (.int (1 : Int32)), .val k0, .unset, .unset, .unset, .unset, .unset, .unset, .unset, .unset, .unset, .unset, .unset, .unset] [(.ref b152_0)]))
      exact J52 _ _ _ Y152 K152 (Or.inr ⟨b152_0, _, rfl, E152, F152⟩)
    ·
      refine own_ifNo Y1 hx (pc' := 44) (hb hby at_41) rfl ((if0 _ _).trans (feq qF151).1) ?_
      refine own_aconstNull Y1 hx (pc' := 45) (hb hby at_44) rfl ?_
      refine own_goto Y1 hx (pc' := 52) (hb hby at_45) (by decide) (by decide) ?_
      exact J52 _ _ .null (own_more Y1 (by decide) (by decide)) (own_Kp.refl _ _) (Or.inl rfl)
  by_cases qF156 : (p5 &&& (1 : Int32)) = (0 : Int32)
  ·
    refine own_ifYes Y0 hx (pc' := 31) (hb hby at_24) ((if0 _ _).trans (teq qF156).1) (by decide) (by decide) ?_
    refine own_iloadN Y0 hx (pc' := 32) (hb hby at_31) rfl rfl ?_
    refine own_static Y0 hx (pc' := 35) (W := 0) (cl' := 1) (sl' := 1) (as' := [(.int p0)]) (S' := []) hZ hown (own_w hw 1 rfl) (own_w hw 2 rfl) (own_w hw 3 rfl) (own_w hw 4 rfl) (by decide) (rm1_15 l Z a0 hw [] p0 w_cache h0 n0 (own_sz Y0) S_high S_cache H_cache) (hb hby at_32) rfl (by rw [hml]; rfl) rfl (lenOf pd__I_Ljava_lang_Integer_ rfl) rfl (by decide) (by decide) rfl rfl (by decide) (by decide) own_PV_sz (fun T157 h157 v157 Y157 R157 => ?_)
    obtain ⟨b157_0, rfl, K157, E157, F157⟩ := R157
    show own_Fin p e below _ (T157.setTop (mkF m 35 #[.val (.int p0), .val (.int p1), .val (.int p2), .val (.int p3), .val (.int p4), .val (.int p5), .val (.int (3 : Int32)), .val (.int (1 : Int32)), .unset, .unset, .unset, .unset, .unset, .unset, .unset, .unset, .unset, .unset, .unset, .unset, .unset] [(.ref b157_0)]))
    exact J35 _ _ _ Y157 K157 (Or.inr ⟨b157_0, _, rfl, E157, F157⟩)
  ·
    refine own_ifNo Y0 hx (pc' := 27) (hb hby at_24) rfl ((if0 _ _).trans (feq qF156).1) ?_
    refine own_aconstNull Y0 hx (pc' := 28) (hb hby at_27) rfl ?_
    refine own_goto Y0 hx (pc' := 35) (hb hby at_28) (by decide) (by decide) ?_
    exact J35 _ _ .null (own_more Y0 (by decide) (by decide)) (own_Kp.refl _ _) (Or.inl rfl)
def P6_41 (Z : State) (a1 : Addr) (a2 : Addr) (v3 : Value) (v4 : Value) (h0 : Heap) (h : Heap) : Prop := own_Kp h0 h [(a1, Jvm.RoadKit.slotOf Z zs0 "key2" zs1), (a1, Jvm.RoadKit.slotOf Z zs0 "value2" zs1)] ∧ Fld Z h a1 zs0 "key2" zs1 .null ∧ Fld Z h a1 zs0 "value2" zs1 .null
theorem P6_41_sz {Z : State} {a1 : Addr} {a2 : Addr} {v3 : Value} {v4 : Value} {h0 : Heap} : ∀ v h', (own_R none (P6_41 Z a1 a2 v3 v4 h0)) v h' → Array.size h0 ≤ Array.size h' := by
  intro v h' q
  obtain ⟨-, K, -⟩ := q
  exact K.1
set_option maxRecDepth 65536 in
set_option maxHeartbeats 40000000 in
theorem rm6_41 (l : Launch) (Z : State) (a0 : Array Value) (hw : ∀ d ∈ tables_1, d.before a0 Z = true) (ws : List Jvm.Cond) (a1 : Addr) (a2 : Addr) (v3 : Value) (v4 : Value) (h0 : Heap) (n0 : Nat) (Z0 : n0 ≤ Array.size h0) (P0 : own_Box Z h0 v3) (P1 : Fld Z h0 a1 zs0 "key2" zs1 (.ref (own_sa a2 v3))) (P2 : Exa Z h0 a1 zs0) (P3 : n0 ≤ a1) (P4 : own_Box Z h0 v4) (P5 : Fld Z h0 a1 zs0 "value2" zs1 v4) :
    MetFree l (⟨zs0, "removeEntry", "(I)V"⟩ : MethodName) (head1 (Jvm.Cond.code (⟨zs0, "removeEntry", "(I)V"⟩ : MethodName) prog_25_method_5_code 2 none :: ws) ({ frames := 0, cells := 0, slots := 0, locals := 0 } : Room)) (fun a U => a = #[(.ref a1), (.int (2 : Int32))] ∧ Z.Warmed39 U.vm ∧ U.heap = h0) (fun _ _ _ _ _ => True) (fun _ U o U' => ∃ v L, o = .returned v ∧ own_QQ n0 (own_R none (P6_41 Z a1 a2 v3 v4 h0)) v U'.heap L ∧ FrameEnd U o U' L ({ frames := 0, cells := 0, slots := 0, locals := 0 } : Room).cells ({ frames := 0, cells := 0, slots := 0, locals := 0 } : Room).slots) := by
  refine MetFree.of_bodySF (plainFor_of_name pn_com_example_napkintree_napkintree_balancing_MultiwayTree_Node) hisR ?_
  intro p e s m args below meth c s₁ Bd hml0 hP hK
  obtain ⟨rfl, hZ, hh⟩ := hP
  have hx := Bd.exec
  have hby := Bd.bytes
  have hml : c.maxLocals = 2 := hml0
  have hown : s.vm.findClass zs0 = some m.cls := findClass_of_methodNamed Bd.named
  have hnm := (name_of_methodNamed Bd.named Bd.method).1
  have hlk : meth.locks = false := BodyLoose.notSynchronized Bd
  have Y0 : own_S p l e ({ frames := 0, cells := 0, slots := 0, locals := 0 } : Room) s m #[(.ref a1), (.int (2 : Int32))] below meth c n0 s₁ h0 0 0 := ⟨[], Stand.of_body Bd, Fr.nil n0, by rw [← hh, Bd.state]; rfl, Z0⟩
  refine (?_ : own_Fin p e below _ _)
  refine own_st (fun t k => castTop (ef_6_RI m a1 (2 : Int32)) k) ?_
  refine own_iloadN Y0 hx (pc' := 1) (hb hby d6_0) rfl rfl ?_
  refine own_ifYes Y0 hx (pc' := 20) (hb hby d6_1) (by decide) (by decide) (by decide) ?_
  refine own_iloadN Y0 hx (pc' := 21) (hb hby d6_20) rfl rfl ?_
  refine own_iconst Y0 hx (pc' := 22) (x := (1 : Int32)) (hb hby d6_21) rfl (by decide) ?_
  refine own_icmpYes Y0 hx (pc' := 41) (hb hby d6_22) (by decide) (by decide) (by decide) ?_
  refine own_aloadN Y0 hx (pc' := 42) (hb hby d6_41) rfl rfl rfl ?_
  refine own_aconstNull Y0 hx (pc' := 43) (hb hby d6_42) rfl ?_
  refine own_putF Y0 hx (pc' := 46) hZ hown (host := "") (Or.inl (own_w hw 43 rfl)) Via.refl P1 P2 (Or.inl (own_w hw 44 rfl)) (own_w hw 12 rfl) (ty := (.object zs2)) (by decide) rfl rfl P3 (hb hby d6_43) rfl (fun T1 h1 Y1 K1 F1 => ?_)
  refine own_aloadN Y1 hx (pc' := 47) (hb hby d6_46) rfl rfl rfl ?_
  refine own_aconstNull Y1 hx (pc' := 48) (hb hby d6_47) rfl ?_
  have F2 := (own_F (v := v4) P5 K1 (own_nr (sl_15 hw) own_nin0))
  have F3 := (own_E P2 K1)
  refine own_putF Y1 hx (pc' := 51) hZ hown (host := "") (Or.inl (own_w hw 45 rfl)) Via.refl F2 F3 (Or.inl (own_w hw 46 rfl)) (own_w hw 12 rfl) (ty := (.object zs2)) (by decide) rfl rfl P3 (hb hby d6_48) rfl (fun T4 h4 Y4 K4 F4 => ?_)
  have KC5 : own_Kp h0 h4 [(a1, Jvm.RoadKit.slotOf Z zs0 "key2" zs1), (a1, Jvm.RoadKit.slotOf Z zs0 "value2" zs1)] := (((own_Kp.refl h0 [(a1, Jvm.RoadKit.slotOf Z zs0 "key2" zs1), (a1, Jvm.RoadKit.slotOf Z zs0 "value2" zs1)]).trans K1 (own_allS (Or.inl (List.mem_of_getElem? (i := 0) rfl)) own_all0)).trans K4 (own_allS (Or.inl (List.mem_of_getElem? (i := 1) rfl)) own_all0))
  have F6 := (own_F (v := .null) F1 K4 (own_nr (sl_29 hw) own_nin0))
  exact own_ret0 Y4 hx hlk Bd.returns (hb hby d6_51) ⟨rfl, KC5, F6, F4⟩ (by decide) (by decide)
set_option maxRecDepth 65536 in
set_option maxHeartbeats 40000000 in
theorem rm7_42 (l : Launch) (Z : State) (a0 : Array Value) (hw : ∀ d ∈ tables_1, d.before a0 Z = true) (ws : List Jvm.Cond) (a1 : Addr) (a2 : Addr) (v3 : Value) (v4 : Value) (h0 : Heap) (n0 : Nat) (Z0 : n0 ≤ Array.size h0) (P0 : own_Box Z h0 v3) (P1 : Fld Z h0 a1 zs0 "key0" zs1 (.ref (own_sa a2 v3))) (P2 : own_Box Z h0 v4) (P3 : Fld Z h0 a1 zs0 "key1" zs1 (.ref (own_sa a2 v4))) (P4 : Fld Z h0 a1 zs0 "key2" zs1 .null) :
    MetFree l (⟨zs0, "keyCount", "()I"⟩ : MethodName) (head1 (Jvm.Cond.code (⟨zs0, "keyCount", "()I"⟩ : MethodName) prog_25_method_16_code 1 (some .int) :: ws) ({ frames := 0, cells := 0, slots := 0, locals := 0 } : Room)) (fun a U => a = #[(.ref a1)] ∧ Z.Warmed39 U.vm ∧ U.heap = h0) (fun _ _ _ _ _ => True) (fun _ U o U' => ∃ v L, o = .returned v ∧ own_QQ n0 (own_Same (some (.int (2 : Int32))) h0) v U'.heap L ∧ FrameEnd U o U' L ({ frames := 0, cells := 0, slots := 0, locals := 0 } : Room).cells ({ frames := 0, cells := 0, slots := 0, locals := 0 } : Room).slots) := by
  refine MetFree.of_bodySF (plainFor_of_name pn_com_example_napkintree_napkintree_balancing_MultiwayTree_Node) hisR ?_
  intro p e s m args below meth c s₁ Bd hml0 hP hK
  obtain ⟨rfl, hZ, hh⟩ := hP
  have hx := Bd.exec
  have hby := Bd.bytes
  have hml : c.maxLocals = 1 := hml0
  have hown : s.vm.findClass zs0 = some m.cls := findClass_of_methodNamed Bd.named
  have hnm := (name_of_methodNamed Bd.named Bd.method).1
  have hlk : meth.locks = false := BodyLoose.notSynchronized Bd
  have Y0 : own_S p l e ({ frames := 0, cells := 0, slots := 0, locals := 0 } : Room) s m #[(.ref a1)] below meth c n0 s₁ h0 0 0 := ⟨[], Stand.of_body Bd, Fr.nil n0, by rw [← hh, Bd.state]; rfl, Z0⟩
  refine (?_ : own_Fin p e below _ _)
  refine own_st (fun t k => castTop (ef_7_R m a1) k) ?_
  refine own_aloadN Y0 hx (pc' := 1) (hb hby d7_0) rfl rfl rfl ?_
  refine own_getF Y0 hx (pc' := 4) (v := (.ref (own_sa a2 v3))) hZ hown (host := "") (Or.inl (own_w hw 30 rfl)) Via.refl P1 (hb hby d7_1) rfl (fun T1 Y1 => ?_)
  refine own_ifnonnullYes Y1 hx (pc' := 11) (hb hby d7_4) (by decide) (by decide) ?_
  refine own_aloadN Y1 hx (pc' := 12) (hb hby d7_11) rfl rfl rfl ?_
  refine own_getF Y1 hx (pc' := 15) (v := (.ref (own_sa a2 v4))) hZ hown (host := "") (Or.inl (own_w hw 34 rfl)) Via.refl P3 (hb hby d7_12) rfl (fun T2 Y2 => ?_)
  refine own_ifnonnullYes Y2 hx (pc' := 22) (hb hby d7_15) (by decide) (by decide) ?_
  refine own_aloadN Y2 hx (pc' := 23) (hb hby d7_22) rfl rfl rfl ?_
  refine own_getF Y2 hx (pc' := 26) (v := .null) hZ hown (host := "") (Or.inl (own_w hw 43 rfl)) Via.refl P4 (hb hby d7_23) rfl (fun T3 Y3 => ?_)
  refine own_ifnonnullNo Y3 hx (pc' := 29) (hb hby d7_26) rfl ?_
  refine own_iconst Y3 hx (pc' := 30) (x := (2 : Int32)) (hb hby d7_29) rfl (by decide) ?_
  refine own_goto Y3 hx (pc' := 34) (hb hby d7_30) (by decide) (by decide) ?_
  exact own_retN Y3 hx hlk Bd.returns rfl (by simp) (hb hby d7_34) ⟨rfl, rfl⟩ (by decide) (by decide)
set_option maxRecDepth 65536 in
set_option maxHeartbeats 40000000 in
theorem rm8_43 (l : Launch) (Z : State) (a0 : Array Value) (hw : ∀ d ∈ tables_1, d.before a0 Z = true) (ws : List Jvm.Cond) (a1 : Addr) (a2 : Addr) (v3 : Value) (h0 : Heap) (n0 : Nat) (Z0 : n0 ≤ Array.size h0) (P0 : own_Box Z h0 v3) (P1 : Fld Z h0 a1 zs0 "key0" zs1 (.ref (own_sa a2 v3))) (P2 : Exa Z h0 a2 zs2) (P3 : Sta Z h0 zs0 "NULL_KEY" zs1 (.ref a2)) :
    MetFree l (⟨zs0, "key", zs6⟩ : MethodName) (head1 (Jvm.Cond.code (⟨zs0, "key", zs6⟩ : MethodName) prog_25_method_17_code 3 (some (.object zs2)) :: ws) ({ frames := 1, cells := 0, slots := 0, locals := 12 } : Room)) (fun a U => a = #[(.ref a1), (.int (0 : Int32))] ∧ Z.Warmed39 U.vm ∧ U.heap = h0) (fun _ _ _ _ _ => True) (fun _ U o U' => ∃ v L, o = .returned v ∧ own_QQ n0 (own_Same (some v3) h0) v U'.heap L ∧ FrameEnd U o U' L ({ frames := 1, cells := 0, slots := 0, locals := 12 } : Room).cells ({ frames := 1, cells := 0, slots := 0, locals := 12 } : Room).slots) := by
  refine MetFree.of_bodySF (plainFor_of_name pn_com_example_napkintree_napkintree_balancing_MultiwayTree_Node) hisR ?_
  intro p e s m args below meth c s₁ Bd hml0 hP hK
  obtain ⟨rfl, hZ, hh⟩ := hP
  have hx := Bd.exec
  have hby := Bd.bytes
  have hml : c.maxLocals = 3 := hml0
  have hown : s.vm.findClass zs0 = some m.cls := findClass_of_methodNamed Bd.named
  have hnm := (name_of_methodNamed Bd.named Bd.method).1
  have hlk : meth.locks = false := BodyLoose.notSynchronized Bd
  have Y0 : own_S p l e ({ frames := 1, cells := 0, slots := 0, locals := 12 } : Room) s m #[(.ref a1), (.int (0 : Int32))] below meth c n0 s₁ h0 0 0 := ⟨[], Stand.of_body Bd, Fr.nil n0, by rw [← hh, Bd.state]; rfl, Z0⟩
  refine (?_ : own_Fin p e below _ _)
  refine own_st (fun t k => castTop (ef_8_RI m a1 (0 : Int32)) k) ?_
  refine own_iloadN Y0 hx (pc' := 1) (hb hby d8_0) rfl rfl ?_
  refine own_tswIn Y0 hx (pc' := 28) (o := 27) (hb hby d8_1) (by decide) (by decide) (by decide) (by decide) ?_
  refine own_aloadN Y0 hx (pc' := 29) (hb hby d8_28) rfl rfl rfl ?_
  refine own_getF Y0 hx (pc' := 32) (v := (.ref (own_sa a2 v3))) hZ hown (host := "") (Or.inl (own_w hw 30 rfl)) Via.refl P1 (hb hby d8_29) rfl (fun T1 Y1 => ?_)
  refine own_goto Y1 hx (pc' := 58) (hb hby d8_32) (by decide) (by decide) ?_
  refine own_astoreN Y1 hx (pc' := 59) (Ls' := #[.val (.ref a1), .val (.int (0 : Int32)), .val (.ref (own_sa a2 v3))]) (hb hby d8_58) rfl rfl rfl ?_
  refine own_aloadN Y1 hx (pc' := 60) (hb hby d8_59) rfl rfl rfl ?_
  refine own_static Y1 hx (pc' := 63) (W := 0) (cl' := 0) (sl' := 0) (as' := [(.ref (own_sa a2 v3))]) (S' := []) hZ hown (own_w hw 57 rfl) (own_w hw 58 rfl) (own_w hw 13 rfl) (own_w hw 59 rfl) (by decide) (rm9_19 l Z a0 hw [] a2 v3 h0 n0 (own_sz Y1) P0 P2 P3) (hb hby d8_60) rfl (by rw [hml]; rfl) rfl (lenOf pd__Ljava_lang_Object__Ljava_lang_Object_ rfl) rfl (by decide) (by decide) rfl rfl (by decide) (by decide) own_Same.sz (own_fixS (S2 := [v3]) rfl (fun T2 Y2 => ?_))
  exact own_retA Y2 hx hlk Bd.returns (own_narR rfl (own_BoxRef P0)) rfl (own_BoxRef P0) (hb hby d8_63) ⟨rfl, rfl⟩ (by decide) (by decide)
set_option maxRecDepth 65536 in
set_option maxHeartbeats 40000000 in
theorem rm8_44 (l : Launch) (Z : State) (a0 : Array Value) (hw : ∀ d ∈ tables_1, d.before a0 Z = true) (ws : List Jvm.Cond) (a1 : Addr) (a2 : Addr) (v3 : Value) (h0 : Heap) (n0 : Nat) (Z0 : n0 ≤ Array.size h0) (P0 : own_Box Z h0 v3) (P1 : Fld Z h0 a1 zs0 "key1" zs1 (.ref (own_sa a2 v3))) (P2 : Exa Z h0 a2 zs2) (P3 : Sta Z h0 zs0 "NULL_KEY" zs1 (.ref a2)) :
    MetFree l (⟨zs0, "key", zs6⟩ : MethodName) (head1 (Jvm.Cond.code (⟨zs0, "key", zs6⟩ : MethodName) prog_25_method_17_code 3 (some (.object zs2)) :: ws) ({ frames := 1, cells := 0, slots := 0, locals := 12 } : Room)) (fun a U => a = #[(.ref a1), (.int (1 : Int32))] ∧ Z.Warmed39 U.vm ∧ U.heap = h0) (fun _ _ _ _ _ => True) (fun _ U o U' => ∃ v L, o = .returned v ∧ own_QQ n0 (own_Same (some v3) h0) v U'.heap L ∧ FrameEnd U o U' L ({ frames := 1, cells := 0, slots := 0, locals := 12 } : Room).cells ({ frames := 1, cells := 0, slots := 0, locals := 12 } : Room).slots) := by
  refine MetFree.of_bodySF (plainFor_of_name pn_com_example_napkintree_napkintree_balancing_MultiwayTree_Node) hisR ?_
  intro p e s m args below meth c s₁ Bd hml0 hP hK
  obtain ⟨rfl, hZ, hh⟩ := hP
  have hx := Bd.exec
  have hby := Bd.bytes
  have hml : c.maxLocals = 3 := hml0
  have hown : s.vm.findClass zs0 = some m.cls := findClass_of_methodNamed Bd.named
  have hnm := (name_of_methodNamed Bd.named Bd.method).1
  have hlk : meth.locks = false := BodyLoose.notSynchronized Bd
  have Y0 : own_S p l e ({ frames := 1, cells := 0, slots := 0, locals := 12 } : Room) s m #[(.ref a1), (.int (1 : Int32))] below meth c n0 s₁ h0 0 0 := ⟨[], Stand.of_body Bd, Fr.nil n0, by rw [← hh, Bd.state]; rfl, Z0⟩
  refine (?_ : own_Fin p e below _ _)
  refine own_st (fun t k => castTop (ef_8_RI m a1 (1 : Int32)) k) ?_
  refine own_iloadN Y0 hx (pc' := 1) (hb hby d8_0) rfl rfl ?_
  refine own_tswIn Y0 hx (pc' := 35) (o := 34) (hb hby d8_1) (by decide) (by decide) (by decide) (by decide) ?_
  refine own_aloadN Y0 hx (pc' := 36) (hb hby d8_35) rfl rfl rfl ?_
  refine own_getF Y0 hx (pc' := 39) (v := (.ref (own_sa a2 v3))) hZ hown (host := "") (Or.inl (own_w hw 34 rfl)) Via.refl P1 (hb hby d8_36) rfl (fun T1 Y1 => ?_)
  refine own_goto Y1 hx (pc' := 58) (hb hby d8_39) (by decide) (by decide) ?_
  refine own_astoreN Y1 hx (pc' := 59) (Ls' := #[.val (.ref a1), .val (.int (1 : Int32)), .val (.ref (own_sa a2 v3))]) (hb hby d8_58) rfl rfl rfl ?_
  refine own_aloadN Y1 hx (pc' := 60) (hb hby d8_59) rfl rfl rfl ?_
  refine own_static Y1 hx (pc' := 63) (W := 0) (cl' := 0) (sl' := 0) (as' := [(.ref (own_sa a2 v3))]) (S' := []) hZ hown (own_w hw 57 rfl) (own_w hw 58 rfl) (own_w hw 13 rfl) (own_w hw 59 rfl) (by decide) (rm9_19 l Z a0 hw [] a2 v3 h0 n0 (own_sz Y1) P0 P2 P3) (hb hby d8_60) rfl (by rw [hml]; rfl) rfl (lenOf pd__Ljava_lang_Object__Ljava_lang_Object_ rfl) rfl (by decide) (by decide) rfl rfl (by decide) (by decide) own_Same.sz (own_fixS (S2 := [v3]) rfl (fun T2 Y2 => ?_))
  exact own_retA Y2 hx hlk Bd.returns (own_narR rfl (own_BoxRef P0)) rfl (own_BoxRef P0) (hb hby d8_63) ⟨rfl, rfl⟩ (by decide) (by decide)
set_option maxRecDepth 65536 in
set_option maxHeartbeats 40000000 in
theorem rm11_45 (l : Launch) (Z : State) (a0 : Array Value) (hw : ∀ d ∈ tables_1, d.before a0 Z = true) (ws : List Jvm.Cond) (a1 : Addr) (v2 : Value) (h0 : Heap) (n0 : Nat) (Z0 : n0 ≤ Array.size h0) (P0 : own_Box Z h0 v2) (P1 : Fld Z h0 a1 zs0 "value0" zs1 v2) :
    MetFree l (⟨zs0, "value", zs6⟩ : MethodName) (head1 (Jvm.Cond.code (⟨zs0, "value", zs6⟩ : MethodName) prog_25_method_20_code 3 (some (.object zs2)) :: ws) ({ frames := 0, cells := 0, slots := 0, locals := 0 } : Room)) (fun a U => a = #[(.ref a1), (.int (0 : Int32))] ∧ Z.Warmed39 U.vm ∧ U.heap = h0) (fun _ _ _ _ _ => True) (fun _ U o U' => ∃ v L, o = .returned v ∧ own_QQ n0 (own_Same (some v2) h0) v U'.heap L ∧ FrameEnd U o U' L ({ frames := 0, cells := 0, slots := 0, locals := 0 } : Room).cells ({ frames := 0, cells := 0, slots := 0, locals := 0 } : Room).slots) := by
  refine MetFree.of_bodySF (plainFor_of_name pn_com_example_napkintree_napkintree_balancing_MultiwayTree_Node) hisR ?_
  intro p e s m args below meth c s₁ Bd hml0 hP hK
  obtain ⟨rfl, hZ, hh⟩ := hP
  have hx := Bd.exec
  have hby := Bd.bytes
  have hml : c.maxLocals = 3 := hml0
  have hown : s.vm.findClass zs0 = some m.cls := findClass_of_methodNamed Bd.named
  have hnm := (name_of_methodNamed Bd.named Bd.method).1
  have hlk : meth.locks = false := BodyLoose.notSynchronized Bd
  have Y0 : own_S p l e ({ frames := 0, cells := 0, slots := 0, locals := 0 } : Room) s m #[(.ref a1), (.int (0 : Int32))] below meth c n0 s₁ h0 0 0 := ⟨[], Stand.of_body Bd, Fr.nil n0, by rw [← hh, Bd.state]; rfl, Z0⟩
  refine (?_ : own_Fin p e below _ _)
  refine own_st (fun t k => castTop (ef_11_RI m a1 (0 : Int32)) k) ?_
  refine own_iloadN Y0 hx (pc' := 1) (hb hby d11_0) rfl rfl ?_
  refine own_tswIn Y0 hx (pc' := 28) (o := 27) (hb hby d11_1) (by decide) (by decide) (by decide) (by decide) ?_
  refine own_aloadN Y0 hx (pc' := 29) (hb hby d11_28) rfl rfl rfl ?_
  refine own_getF Y0 hx (pc' := 32) (v := v2) hZ hown (host := "") (Or.inl (own_w hw 32 rfl)) Via.refl P1 (hb hby d11_29) rfl (fun T1 Y1 => ?_)
  refine own_goto Y1 hx (pc' := 58) (hb hby d11_32) (by decide) (by decide) ?_
  refine own_astoreN Y1 hx (pc' := 59) (Ls' := #[.val (.ref a1), .val (.int (0 : Int32)), .val v2]) (hb hby d11_58) rfl (own_BoxRef P0) (own_stV (own_BoxRef P0) rfl (Or.inl rfl) rfl) ?_
  refine own_aloadN Y1 hx (pc' := 60) (hb hby d11_59) rfl rfl (own_BoxRef P0) ?_
  exact own_retA Y1 hx hlk Bd.returns (own_narR rfl (own_BoxRef P0)) rfl (own_BoxRef P0) (hb hby d11_60) ⟨rfl, rfl⟩ (by decide) (by decide)
set_option maxRecDepth 65536 in
set_option maxHeartbeats 40000000 in
theorem rm11_46 (l : Launch) (Z : State) (a0 : Array Value) (hw : ∀ d ∈ tables_1, d.before a0 Z = true) (ws : List Jvm.Cond) (a1 : Addr) (v2 : Value) (h0 : Heap) (n0 : Nat) (Z0 : n0 ≤ Array.size h0) (P0 : own_Box Z h0 v2) (P1 : Fld Z h0 a1 zs0 "value1" zs1 v2) :
    MetFree l (⟨zs0, "value", zs6⟩ : MethodName) (head1 (Jvm.Cond.code (⟨zs0, "value", zs6⟩ : MethodName) prog_25_method_20_code 3 (some (.object zs2)) :: ws) ({ frames := 0, cells := 0, slots := 0, locals := 0 } : Room)) (fun a U => a = #[(.ref a1), (.int (1 : Int32))] ∧ Z.Warmed39 U.vm ∧ U.heap = h0) (fun _ _ _ _ _ => True) (fun _ U o U' => ∃ v L, o = .returned v ∧ own_QQ n0 (own_Same (some v2) h0) v U'.heap L ∧ FrameEnd U o U' L ({ frames := 0, cells := 0, slots := 0, locals := 0 } : Room).cells ({ frames := 0, cells := 0, slots := 0, locals := 0 } : Room).slots) := by
  refine MetFree.of_bodySF (plainFor_of_name pn_com_example_napkintree_napkintree_balancing_MultiwayTree_Node) hisR ?_
  intro p e s m args below meth c s₁ Bd hml0 hP hK
  obtain ⟨rfl, hZ, hh⟩ := hP
  have hx := Bd.exec
  have hby := Bd.bytes
  have hml : c.maxLocals = 3 := hml0
  have hown : s.vm.findClass zs0 = some m.cls := findClass_of_methodNamed Bd.named
  have hnm := (name_of_methodNamed Bd.named Bd.method).1
  have hlk : meth.locks = false := BodyLoose.notSynchronized Bd
  have Y0 : own_S p l e ({ frames := 0, cells := 0, slots := 0, locals := 0 } : Room) s m #[(.ref a1), (.int (1 : Int32))] below meth c n0 s₁ h0 0 0 := ⟨[], Stand.of_body Bd, Fr.nil n0, by rw [← hh, Bd.state]; rfl, Z0⟩
  refine (?_ : own_Fin p e below _ _)
  refine own_st (fun t k => castTop (ef_11_RI m a1 (1 : Int32)) k) ?_
  refine own_iloadN Y0 hx (pc' := 1) (hb hby d11_0) rfl rfl ?_
  refine own_tswIn Y0 hx (pc' := 35) (o := 34) (hb hby d11_1) (by decide) (by decide) (by decide) (by decide) ?_
  refine own_aloadN Y0 hx (pc' := 36) (hb hby d11_35) rfl rfl rfl ?_
  refine own_getF Y0 hx (pc' := 39) (v := v2) hZ hown (host := "") (Or.inl (own_w hw 36 rfl)) Via.refl P1 (hb hby d11_36) rfl (fun T1 Y1 => ?_)
  refine own_goto Y1 hx (pc' := 58) (hb hby d11_39) (by decide) (by decide) ?_
  refine own_astoreN Y1 hx (pc' := 59) (Ls' := #[.val (.ref a1), .val (.int (1 : Int32)), .val v2]) (hb hby d11_58) rfl (own_BoxRef P0) (own_stV (own_BoxRef P0) rfl (Or.inl rfl) rfl) ?_
  refine own_aloadN Y1 hx (pc' := 60) (hb hby d11_59) rfl rfl (own_BoxRef P0) ?_
  exact own_retA Y1 hx hlk Bd.returns (own_narR rfl (own_BoxRef P0)) rfl (own_BoxRef P0) (hb hby d11_60) ⟨rfl, rfl⟩ (by decide) (by decide)
set_option maxRecDepth 65536 in
set_option maxHeartbeats 40000000 in
theorem rm0_c32 (l : Launch) (Z : State) (a0 : Array Value) (hw : ∀ d ∈ tables_1, d.before a0 Z = true) (ws : List Jvm.Cond) (w_NULL_KEY : Addr) (w_cache : Addr) (p0 : Int32) (p1 : Int32) (p2 : Int32) (p3 : Int32) (p4 : Int32) (p5 : Int32) (h0 : Heap) (n0 : Nat) (Z0 : n0 ≤ Array.size h0) (PN : own_Pins Z h0 w_NULL_KEY w_cache) (q0 : ((p3 &&& (2147483647 : Int32)) % (3 : Int32)) = (2 : Int32)) (q1 : ((p4 &&& (2147483647 : Int32)) % (3 : Int32)) = (2 : Int32)) :
    MetFree l x (head1 (Jvm.Cond.code x code maxLocals ret :: ws) room_1) (fun a U => a = #[(.int p0), (.int p1), (.int p2), (.int p3), (.int p4), (.int p5)] ∧ Z.Warmed39 U.vm ∧ U.heap = h0) (fun _ _ _ _ _ => True) (fun _ U o U' => ∃ v L, o = .returned v ∧ own_QQ n0 (own_R (some (.int (1 : Int32))) (fun _ => True)) v U'.heap L ∧ FrameEnd U o U' L room_1.cells room_1.slots) := by
  refine MetFree.of_bodySF (plainFor_of_name pn_com_example_napkintree_napkintree_balancing_NodeRemoveEntryPinLaw) hisR ?_
  intro p e s m args below meth c s₁ Bd hml0 hP hK
  obtain ⟨rfl, hZ, hh⟩ := hP
  have hx := Bd.exec
  have hby := Bd.bytes
  have hml : c.maxLocals = 21 := hml0
  have hown : s.vm.findClass zs7 = some m.cls := findClass_of_methodNamed Bd.named
  have hnm := (name_of_methodNamed Bd.named Bd.method).1
  have hlk : meth.locks = false := BodyLoose.notSynchronized Bd
  have Y0 : own_S p l e room_1 s m #[(.int p0), (.int p1), (.int p2), (.int p3), (.int p4), (.int p5)] below meth c n0 s₁ h0 0 0 := ⟨[], Stand.of_body Bd, Fr.nil n0, by rw [← hh, Bd.state]; rfl, Z0⟩
  obtain ⟨S_NULL_KEY, E_NULL_KEY, S_high, S_cache, H_cache⟩ := PN
  refine (?_ : own_Fin p e below _ _)
  refine own_st (fun t k => castTop (ef_0_IIIIII m p0 p1 p2 p3 p4 p5) k) ?_
  show own_Fin p e below (own_KL s n0) _
  refine own_iloadN Y0 hx (pc' := 1) (hb hby at_0) rfl rfl ?_
  refine own_ldcI Y0 hx (pc' := 3) hZ hown (own_w hw 0 rfl) (hb hby at_1) rfl ?_
  refine own_iand Y0 hx (pc' := 4) (hb hby at_3) rfl (z := (p3 &&& (2147483647 : Int32))) rfl ?_
  refine own_iconst Y0 hx (pc' := 5) (x := (3 : Int32)) (hb hby at_4) rfl (by decide) ?_
  refine own_irem Y0 hx (pc' := 6) (hb hby at_5) rfl (by decide) (z := (2 : Int32)) q0 ?_
  refine own_iconst Y0 hx (pc' := 7) (x := (1 : Int32)) (hb hby at_6) rfl (by decide) ?_
  refine own_iadd Y0 hx (pc' := 8) (hb hby at_7) rfl (z := (3 : Int32)) (by decide) ?_
  refine own_istore Y0 hx (pc' := 10) (Ls' := #[.val (.int p0), .val (.int p1), .val (.int p2), .val (.int p3), .val (.int p4), .val (.int p5), .val (.int (3 : Int32)), .unset, .unset, .unset, .unset, .unset, .unset, .unset, .unset, .unset, .unset, .unset, .unset, .unset, .unset]) (hb hby at_8) rfl rfl ?_
  refine own_iload Y0 hx (pc' := 12) (hb hby at_10) rfl rfl ?_
  refine own_ldcI Y0 hx (pc' := 14) hZ hown (own_w hw 0 rfl) (hb hby at_12) rfl ?_
  refine own_iand Y0 hx (pc' := 15) (hb hby at_14) rfl (z := (p4 &&& (2147483647 : Int32))) rfl ?_
  refine own_iload Y0 hx (pc' := 17) (hb hby at_15) rfl rfl ?_
  refine own_irem Y0 hx (pc' := 18) (hb hby at_17) rfl (by decide) (z := (2 : Int32)) q1 ?_
  refine own_istore Y0 hx (pc' := 20) (Ls' := #[.val (.int p0), .val (.int p1), .val (.int p2), .val (.int p3), .val (.int p4), .val (.int p5), .val (.int (3 : Int32)), .val (.int (2 : Int32)), .unset, .unset, .unset, .unset, .unset, .unset, .unset, .unset, .unset, .unset, .unset, .unset, .unset]) (hb hby at_18) rfl rfl ?_
  refine own_iload Y0 hx (pc' := 22) (hb hby at_20) rfl rfl ?_
  refine own_iconst Y0 hx (pc' := 23) (x := (1 : Int32)) (hb hby at_22) rfl (by decide) ?_
  refine own_iand Y0 hx (pc' := 24) (hb hby at_23) rfl (z := (p5 &&& (1 : Int32))) rfl ?_
  have J35 : ∀ (T' : State) (h' : Heap) (k0 : Value), own_S p l e room_1 s m #[(.int p0), (.int p1), (.int p2), (.int p3), (.int p4), (.int p5)] below meth c n0 T' h' 1 1 → own_Kp h0 h' [] → own_Box Z h' k0 → own_Fin p e below (own_KL s n0) (T'.setTop (mkF m 35 #[.val (.int p0), .val (.int p1), .val (.int p2), .val (.int p3), .val (.int p4), .val (.int p5), .val (.int (3 : Int32)), .val (.int (2 : Int32)), .unset, .unset, .unset, .unset, .unset, .unset, .unset, .unset, .unset, .unset, .unset, .unset, .unset] [k0])) := by
    intro T1 h1 k0 Y1 K1 B1
    have hr_k0 : k0.isRef = true := own_BoxRef B1
    refine own_astore Y1 hx (pc' := 37) (Ls' := #[.val (.int p0), .val (.int p1), .val (.int p2), .val (.int p3), .val (.int p4), .val (.int p5), .val (.int (3 : Int32)), .val (.int (2 : Int32)), .val k0, .unset, .unset, .unset, .unset, .unset, .unset, .unset, .unset, .unset, .unset, .unset, .unset]) (hb hby at_35) rfl hr_k0 (own_stV hr_k0 rfl (Or.inl rfl) rfl) ?_
    refine own_iload Y1 hx (pc' := 39) (hb hby at_37) rfl rfl ?_
    refine own_iconst Y1 hx (pc' := 40) (x := (2 : Int32)) (hb hby at_39) rfl (by decide) ?_
    refine own_iand Y1 hx (pc' := 41) (hb hby at_40) rfl (z := (p5 &&& (2 : Int32))) rfl ?_
    have J52 : ∀ (T' : State) (h' : Heap) (k1 : Value), own_S p l e room_1 s m #[(.int p0), (.int p1), (.int p2), (.int p3), (.int p4), (.int p5)] below meth c n0 T' h' 2 2 → own_Kp h1 h' [] → own_Box Z h' k1 → own_Fin p e below (own_KL s n0) (T'.setTop (mkF m 52 #[.val (.int p0), .val (.int p1), .val (.int p2), .val (.int p3), .val (.int p4), .val (.int p5), .val (.int (3 : Int32)), .val (.int (2 : Int32)), .val k0, .unset, .unset, .unset, .unset, .unset, .unset, .unset, .unset, .unset, .unset, .unset, .unset] [k1])) := by
      intro T2 h2 k1 Y2 K2 B2
      have hr_k1 : k1.isRef = true := own_BoxRef B2
      refine own_astore Y2 hx (pc' := 54) (Ls' := #[.val (.int p0), .val (.int p1), .val (.int p2), .val (.int p3), .val (.int p4), .val (.int p5), .val (.int (3 : Int32)), .val (.int (2 : Int32)), .val k0, .val k1, .unset, .unset, .unset, .unset, .unset, .unset, .unset, .unset, .unset, .unset, .unset]) (hb hby at_52) rfl hr_k1 (own_stV hr_k1 rfl (Or.inl rfl) rfl) ?_
      refine own_iload Y2 hx (pc' := 56) (hb hby at_54) rfl rfl ?_
      refine own_iconst Y2 hx (pc' := 57) (x := (4 : Int32)) (hb hby at_56) rfl (by decide) ?_
      refine own_iand Y2 hx (pc' := 58) (hb hby at_57) rfl (z := (p5 &&& (4 : Int32))) rfl ?_
      have J69 : ∀ (T' : State) (h' : Heap) (k2 : Value), own_S p l e room_1 s m #[(.int p0), (.int p1), (.int p2), (.int p3), (.int p4), (.int p5)] below meth c n0 T' h' 3 3 → own_Kp h2 h' [] → own_Box Z h' k2 → own_Fin p e below (own_KL s n0) (T'.setTop (mkF m 69 #[.val (.int p0), .val (.int p1), .val (.int p2), .val (.int p3), .val (.int p4), .val (.int p5), .val (.int (3 : Int32)), .val (.int (2 : Int32)), .val k0, .val k1, .unset, .unset, .unset, .unset, .unset, .unset, .unset, .unset, .unset, .unset, .unset] [k2])) := by
        intro T3 h3 k2 Y3 K3 B3
        have hr_k2 : k2.isRef = true := own_BoxRef B3
        refine own_astore Y3 hx (pc' := 71) (Ls' := #[.val (.int p0), .val (.int p1), .val (.int p2), .val (.int p3), .val (.int p4), .val (.int p5), .val (.int (3 : Int32)), .val (.int (2 : Int32)), .val k0, .val k1, .val k2, .unset, .unset, .unset, .unset, .unset, .unset, .unset, .unset, .unset, .unset]) (hb hby at_69) rfl hr_k2 (own_stV hr_k2 rfl (Or.inl rfl) rfl) ?_
        refine own_iload Y3 hx (pc' := 73) (hb hby at_71) rfl rfl ?_
        refine own_bipush Y3 hx (pc' := 75) (x := (8 : Int32)) (hb hby at_73) rfl (by decide) ?_
        refine own_iand Y3 hx (pc' := 76) (hb hby at_75) rfl (z := (p5 &&& (8 : Int32))) rfl ?_
        have J87 : ∀ (T' : State) (h' : Heap) (v0 : Value), own_S p l e room_1 s m #[(.int p0), (.int p1), (.int p2), (.int p3), (.int p4), (.int p5)] below meth c n0 T' h' 4 4 → own_Kp h3 h' [] → own_Box Z h' v0 → own_Fin p e below (own_KL s n0) (T'.setTop (mkF m 87 #[.val (.int p0), .val (.int p1), .val (.int p2), .val (.int p3), .val (.int p4), .val (.int p5), .val (.int (3 : Int32)), .val (.int (2 : Int32)), .val k0, .val k1, .val k2, .unset, .unset, .unset, .unset, .unset, .unset, .unset, .unset, .unset, .unset] [v0])) := by
          intro T4 h4 v0 Y4 K4 B4
          have hr_v0 : v0.isRef = true := own_BoxRef B4
          refine own_astore Y4 hx (pc' := 89) (Ls' := #[.val (.int p0), .val (.int p1), .val (.int p2), .val (.int p3), .val (.int p4), .val (.int p5), .val (.int (3 : Int32)), .val (.int (2 : Int32)), .val k0, .val k1, .val k2, .val v0, .unset, .unset, .unset, .unset, .unset, .unset, .unset, .unset, .unset]) (hb hby at_87) rfl hr_v0 (own_stV hr_v0 rfl (Or.inl rfl) rfl) ?_
          refine own_iload Y4 hx (pc' := 91) (hb hby at_89) rfl rfl ?_
          refine own_bipush Y4 hx (pc' := 93) (x := (16 : Int32)) (hb hby at_91) rfl (by decide) ?_
          refine own_iand Y4 hx (pc' := 94) (hb hby at_93) rfl (z := (p5 &&& (16 : Int32))) rfl ?_
          have J106 : ∀ (T' : State) (h' : Heap) (v1 : Value), own_S p l e room_1 s m #[(.int p0), (.int p1), (.int p2), (.int p3), (.int p4), (.int p5)] below meth c n0 T' h' 5 5 → own_Kp h4 h' [] → own_Box Z h' v1 → own_Fin p e below (own_KL s n0) (T'.setTop (mkF m 106 #[.val (.int p0), .val (.int p1), .val (.int p2), .val (.int p3), .val (.int p4), .val (.int p5), .val (.int (3 : Int32)), .val (.int (2 : Int32)), .val k0, .val k1, .val k2, .val v0, .unset, .unset, .unset, .unset, .unset, .unset, .unset, .unset, .unset] [v1])) := by
            intro T5 h5 v1 Y5 K5 B5
            have hr_v1 : v1.isRef = true := own_BoxRef B5
            refine own_astore Y5 hx (pc' := 108) (Ls' := #[.val (.int p0), .val (.int p1), .val (.int p2), .val (.int p3), .val (.int p4), .val (.int p5), .val (.int (3 : Int32)), .val (.int (2 : Int32)), .val k0, .val k1, .val k2, .val v0, .val v1, .unset, .unset, .unset, .unset, .unset, .unset, .unset, .unset]) (hb hby at_106) rfl hr_v1 (own_stV hr_v1 rfl (Or.inl rfl) rfl) ?_
            refine own_iload Y5 hx (pc' := 110) (hb hby at_108) rfl rfl ?_
            refine own_bipush Y5 hx (pc' := 112) (x := (32 : Int32)) (hb hby at_110) rfl (by decide) ?_
            refine own_iand Y5 hx (pc' := 113) (hb hby at_112) rfl (z := (p5 &&& (32 : Int32))) rfl ?_
            have J125 : ∀ (T' : State) (h' : Heap) (v2 : Value), own_S p l e room_1 s m #[(.int p0), (.int p1), (.int p2), (.int p3), (.int p4), (.int p5)] below meth c n0 T' h' 6 6 → own_Kp h5 h' [] → own_Box Z h' v2 → own_Fin p e below (own_KL s n0) (T'.setTop (mkF m 125 #[.val (.int p0), .val (.int p1), .val (.int p2), .val (.int p3), .val (.int p4), .val (.int p5), .val (.int (3 : Int32)), .val (.int (2 : Int32)), .val k0, .val k1, .val k2, .val v0, .val v1, .unset, .unset, .unset, .unset, .unset, .unset, .unset, .unset] [v2])) := by
              intro T6 h6 v2 Y6 K6 B6
              have hr_v2 : v2.isRef = true := own_BoxRef B6
              refine own_astore Y6 hx (pc' := 127) (Ls' := #[.val (.int p0), .val (.int p1), .val (.int p2), .val (.int p3), .val (.int p4), .val (.int p5), .val (.int (3 : Int32)), .val (.int (2 : Int32)), .val k0, .val k1, .val k2, .val v0, .val v1, .val v2, .unset, .unset, .unset, .unset, .unset, .unset, .unset]) (hb hby at_125) rfl hr_v2 (own_stV hr_v2 rfl (Or.inl rfl) rfl) ?_
              refine own_iconst Y6 hx (pc' := 128) (x := (4 : Int32)) (hb hby at_127) rfl (by decide) ?_
              have KC8 : own_Kp h0 h6 [] := (((((((own_Kp.refl h0 []).trans K1 own_all0).trans K2 own_all0).trans K3 own_all0).trans K4 own_all0).trans K5 own_all0).trans K6 own_all0)
              refine own_anew Y6 hx (pc' := 131) (cap := 4) (cl' := 7) (sl' := 10) (vs := [.null, .null, .null, .null]) hZ hown (own_w hw 8 rfl) (own_w hw 9 rfl) (hb hby at_128) rfl (by decide) (by decide) (by decide) rfl rfl (by decide) (by decide) rfl (fun T7 h7 b7 k7 Y7 K7 le7 V7 O7 => ?_)
              have sz_b7 : Array.size h0 ≤ b7 := Nat.le_trans KC8.1 le7
              refine own_astore Y7 hx (pc' := 133) (Ls' := #[.val (.int p0), .val (.int p1), .val (.int p2), .val (.int p3), .val (.int p4), .val (.int p5), .val (.int (3 : Int32)), .val (.int (2 : Int32)), .val k0, .val k1, .val k2, .val v0, .val v1, .val v2, .val (.ref b7), .unset, .unset, .unset, .unset, .unset, .unset]) (hb hby at_131) rfl rfl rfl ?_
              refine own_iconst Y7 hx (pc' := 134) (x := (4 : Int32)) (hb hby at_133) rfl (by decide) ?_
              have KC10 : own_Kp h0 h7 [] := (KC8.trans K7 own_all0)
              refine own_anew Y7 hx (pc' := 137) (cap := 4) (cl' := 8) (sl' := 14) (vs := [.null, .null, .null, .null]) hZ hown (own_w hw 8 rfl) (own_w hw 9 rfl) (hb hby at_134) rfl (by decide) (by decide) (by decide) rfl rfl (by decide) (by decide) rfl (fun T9 h9 b9 k9 Y9 K9 le9 V9 O9 => ?_)
              have sz_b9 : Array.size h0 ≤ b9 := Nat.le_trans KC10.1 le9
              refine own_astore Y9 hx (pc' := 139) (Ls' := #[.val (.int p0), .val (.int p1), .val (.int p2), .val (.int p3), .val (.int p4), .val (.int p5), .val (.int (3 : Int32)), .val (.int (2 : Int32)), .val k0, .val k1, .val k2, .val v0, .val v1, .val v2, .val (.ref b7), .val (.ref b9), .unset, .unset, .unset, .unset, .unset]) (hb hby at_137) rfl rfl rfl ?_
              refine own_aload Y9 hx (pc' := 141) (hb hby at_139) rfl rfl rfl ?_
              refine own_iconst Y9 hx (pc' := 142) (x := (0 : Int32)) (hb hby at_141) rfl (by decide) ?_
              refine own_aload Y9 hx (pc' := 144) (hb hby at_142) rfl rfl hr_k0 ?_
              have F12 := (own_A V7 K9 own_out0)
              have F13 := (own_B (own_B (own_B (own_B (own_B (own_B (own_B B1 K2 own_off0) K3 own_off0) K4 own_off0) K5 own_off0) K6 own_off0) K7 own_off0) K9 own_off0)
              refine own_aast Y9 hx (pc' := 145) (i := 0) (vs' := [k0, .null, .null, .null]) hZ F12 (by decide) rfl (by show 0 < 4; decide) rfl (fun _ A q => own_stoB A q O7 F13) (own_fitR rfl hr_k0) (Nat.le_trans Z0 sz_b7) rfl (hb hby at_144) rfl (fun T11 h11 Y11 K11 V11 => ?_)
              refine own_aload Y11 hx (pc' := 147) (hb hby at_145) rfl rfl rfl ?_
              refine own_iconst Y11 hx (pc' := 148) (x := (0 : Int32)) (hb hby at_147) rfl (by decide) ?_
              refine own_aload Y11 hx (pc' := 150) (hb hby at_148) rfl rfl hr_v0 ?_
              have D15 : b7 ≠ b9 := (Nat.ne_of_lt (Nat.lt_of_lt_of_le V7.lt le9))
              have F16 := (own_A V9 K11 (own_out (Ne.symm D15) own_out0))
              have F17 := (own_B (own_B B4 K5 own_off0) K6 own_off0)
              have O18 := (own_offN F17 le7)
              have F19 := (own_B (own_B (own_B (own_B (own_B B4 K5 own_off0) K6 own_off0) K7 own_off0) K9 own_off0) K11 (own_offS O18 own_off0))
              refine own_aast Y11 hx (pc' := 151) (i := 0) (vs' := [v0, .null, .null, .null]) hZ F16 (by decide) rfl (by show 0 < 4; decide) rfl (fun _ A q => own_stoB A q O9 F19) (own_fitR rfl hr_v0) (Nat.le_trans Z0 sz_b9) rfl (hb hby at_150) rfl (fun T14 h14 Y14 K14 V14 => ?_)
              refine own_iload Y14 hx (pc' := 153) (hb hby at_151) rfl rfl ?_
              refine own_iconst Y14 hx (pc' := 154) (x := (2 : Int32)) (hb hby at_153) rfl (by decide) ?_
              refine own_icmpNo Y14 hx (pc' := 157) (hb hby at_154) rfl (by decide) ?_
              refine own_aload Y14 hx (pc' := 159) (hb hby at_157) rfl rfl rfl ?_
              refine own_iconst Y14 hx (pc' := 160) (x := (1 : Int32)) (hb hby at_159) rfl (by decide) ?_
              refine own_aload Y14 hx (pc' := 162) (hb hby at_160) rfl rfl hr_k1 ?_
              have F21 := (own_A V11 K14 (own_out D15 own_out0))
              have F22 := (own_B (own_B (own_B (own_B B2 K3 own_off0) K4 own_off0) K5 own_off0) K6 own_off0)
              have O23 := (own_offN F22 le7)
              have F24 := (own_B F22 K7 own_off0)
              have O25 := (own_offN F24 le9)
              have F26 := (own_B (own_B (own_B (own_B (own_B (own_B (own_B (own_B B2 K3 own_off0) K4 own_off0) K5 own_off0) K6 own_off0) K7 own_off0) K9 own_off0) K11 (own_offS O23 own_off0)) K14 (own_offS O25 own_off0))
              refine own_aast Y14 hx (pc' := 163) (i := 1) (vs' := [k0, k1, .null, .null]) hZ F21 (by decide) rfl (by show 1 < 4; decide) rfl (fun _ A q => own_stoB A q O7 F26) (own_fitR rfl hr_k1) (Nat.le_trans Z0 sz_b7) rfl (hb hby at_162) rfl (fun T20 h20 Y20 K20 V20 => ?_)
              refine own_aload Y20 hx (pc' := 165) (hb hby at_163) rfl rfl rfl ?_
              refine own_iconst Y20 hx (pc' := 166) (x := (1 : Int32)) (hb hby at_165) rfl (by decide) ?_
              refine own_aload Y20 hx (pc' := 168) (hb hby at_166) rfl rfl hr_v1 ?_
              have F28 := (own_A V14 K20 (own_out (Ne.symm D15) own_out0))
              have F29 := (own_B B5 K6 own_off0)
              have O30 := (own_offN F29 le7)
              have F31 := (own_B F29 K7 own_off0)
              have O32 := (own_offN F31 le9)
              have F33 := (own_B (own_B (own_B (own_B (own_B (own_B B5 K6 own_off0) K7 own_off0) K9 own_off0) K11 (own_offS O30 own_off0)) K14 (own_offS O32 own_off0)) K20 (own_offS O30 own_off0))
              refine own_aast Y20 hx (pc' := 169) (i := 1) (vs' := [v0, v1, .null, .null]) hZ F28 (by decide) rfl (by show 1 < 4; decide) rfl (fun _ A q => own_stoB A q O9 F33) (own_fitR rfl hr_v1) (Nat.le_trans Z0 sz_b9) rfl (hb hby at_168) rfl (fun T27 h27 Y27 K27 V27 => ?_)
              refine own_iload Y27 hx (pc' := 171) (hb hby at_169) rfl rfl ?_
              refine own_iconst Y27 hx (pc' := 172) (x := (3 : Int32)) (hb hby at_171) rfl (by decide) ?_
              refine own_icmpNo Y27 hx (pc' := 175) (hb hby at_172) rfl (by decide) ?_
              refine own_aload Y27 hx (pc' := 177) (hb hby at_175) rfl rfl rfl ?_
              refine own_iconst Y27 hx (pc' := 178) (x := (2 : Int32)) (hb hby at_177) rfl (by decide) ?_
              refine own_aload Y27 hx (pc' := 180) (hb hby at_178) rfl rfl hr_k2 ?_
              have F35 := (own_A V20 K27 (own_out D15 own_out0))
              have F36 := (own_B (own_B (own_B B3 K4 own_off0) K5 own_off0) K6 own_off0)
              have O37 := (own_offN F36 le7)
              have F38 := (own_B F36 K7 own_off0)
              have O39 := (own_offN F38 le9)
              have F40 := (own_B (own_B (own_B (own_B (own_B (own_B (own_B (own_B (own_B B3 K4 own_off0) K5 own_off0) K6 own_off0) K7 own_off0) K9 own_off0) K11 (own_offS O37 own_off0)) K14 (own_offS O39 own_off0)) K20 (own_offS O37 own_off0)) K27 (own_offS O39 own_off0))
              refine own_aast Y27 hx (pc' := 181) (i := 2) (vs' := [k0, k1, k2, .null]) hZ F35 (by decide) rfl (by show 2 < 4; decide) rfl (fun _ A q => own_stoB A q O7 F40) (own_fitR rfl hr_k2) (Nat.le_trans Z0 sz_b7) rfl (hb hby at_180) rfl (fun T34 h34 Y34 K34 V34 => ?_)
              refine own_aload Y34 hx (pc' := 183) (hb hby at_181) rfl rfl rfl ?_
              refine own_iconst Y34 hx (pc' := 184) (x := (2 : Int32)) (hb hby at_183) rfl (by decide) ?_
              refine own_aload Y34 hx (pc' := 186) (hb hby at_184) rfl rfl hr_v2 ?_
              have F42 := (own_A V27 K34 (own_out (Ne.symm D15) own_out0))
              have O43 := (own_offN B6 le7)
              have F44 := (own_B B6 K7 own_off0)
              have O45 := (own_offN F44 le9)
              have F46 := (own_B (own_B (own_B (own_B (own_B (own_B (own_B B6 K7 own_off0) K9 own_off0) K11 (own_offS O43 own_off0)) K14 (own_offS O45 own_off0)) K20 (own_offS O43 own_off0)) K27 (own_offS O45 own_off0)) K34 (own_offS O43 own_off0))
              refine own_aast Y34 hx (pc' := 187) (i := 2) (vs' := [v0, v1, v2, .null]) hZ F42 (by decide) rfl (by show 2 < 4; decide) rfl (fun _ A q => own_stoB A q O9 F46) (own_fitR rfl hr_v2) (Nat.le_trans Z0 sz_b9) rfl (hb hby at_186) rfl (fun T41 h41 Y41 K41 V41 => ?_)
              have KC48 : own_Kp h0 h41 [] := (((((((KC10.trans K9 own_all0).trans K11 (own_allS (Or.inr sz_b7) own_all0)).trans K14 (own_allS (Or.inr sz_b9) own_all0)).trans K20 (own_allS (Or.inr sz_b7) own_all0)).trans K27 (own_allS (Or.inr sz_b9) own_all0)).trans K34 (own_allS (Or.inr sz_b7) own_all0)).trans K41 (own_allS (Or.inr sz_b9) own_all0))
              refine own_new Y41 hx (pc' := 190) (cl' := 9) (sl' := 25) hZ hown (own_w hw 11 rfl) (own_w hw 12 rfl) (own_w hw 13 rfl) (hb hby at_187) rfl rfl rfl (by decide) (by decide) (fun T47 h47 b47 Y47 K47 le47 E47 D47 => ?_)
              have sz_b47 : Array.size h0 ≤ b47 := Nat.le_trans KC48.1 le47
              refine own_dup Y47 hx (pc' := 191) (hb hby at_190) rfl rfl ?_
              refine own_special Y47 hx (pc' := 194) (W := 1) (cl' := 9) (sl' := 25) (as' := []) (S' := [(.ref b47)]) (a := b47) rfl hZ hown (own_w hw 14 rfl) (own_w hw 15 rfl) (own_w hw 13 rfl) (own_w hw 16 rfl) (by decide) (rm2_1 l Z a0 hw [] b47 h47 n0 (own_sz Y47)) (hb hby at_191) rfl (by rw [hml]; rfl) rfl (lenOf pd___V rfl) rfl (by decide) (by decide) rfl rfl (by decide) (by decide) own_Same.sz (own_fixS (S2 := [(.ref b47)]) rfl (fun T49 Y49 => ?_))
              refine own_astore Y49 hx (pc' := 196) (Ls' := #[.val (.int p0), .val (.int p1), .val (.int p2), .val (.int p3), .val (.int p4), .val (.int p5), .val (.int (3 : Int32)), .val (.int (2 : Int32)), .val k0, .val k1, .val k2, .val v0, .val v1, .val v2, .val (.ref b7), .val (.ref b9), .val (.ref b47), .unset, .unset, .unset, .unset]) (hb hby at_194) rfl rfl rfl ?_
              refine own_aload Y49 hx (pc' := 198) (hb hby at_196) rfl rfl rfl ?_
              refine own_iconst Y49 hx (pc' := 199) (x := (0 : Int32)) (hb hby at_198) rfl (by decide) ?_
              refine own_aload Y49 hx (pc' := 201) (hb hby at_199) rfl rfl hr_k0 ?_
              refine own_aload Y49 hx (pc' := 203) (hb hby at_201) rfl rfl hr_v0 ?_
              have F51 := (own_B (own_B (own_B (own_B (own_B B1 K2 own_off0) K3 own_off0) K4 own_off0) K5 own_off0) K6 own_off0)
              have O52 := (own_offN F51 le7)
              have F53 := (own_B F51 K7 own_off0)
              have O54 := (own_offN F53 le9)
              have F55 := (own_B (own_B (own_B (own_B (own_B (own_B (own_B F13 K11 (own_offS O52 own_off0)) K14 (own_offS O54 own_off0)) K20 (own_offS O52 own_off0)) K27 (own_offS O54 own_off0)) K34 (own_offS O52 own_off0)) K41 (own_offS O54 own_off0)) K47 own_off0)
              have F56 := (own_B F17 K7 own_off0)
              have O57 := (own_offN F56 le9)
              have F58 := (own_B (own_B (own_B (own_B (own_B (own_B F19 K14 (own_offS O57 own_off0)) K20 (own_offS O18 own_off0)) K27 (own_offS O57 own_off0)) K34 (own_offS O18 own_off0)) K41 (own_offS O57 own_off0)) K47 own_off0)
              have F59 := (own_St (own_St (own_St (own_St (own_St (own_St (own_St (own_St (own_St (own_St (own_St (own_St (own_St (own_St (own_St S_NULL_KEY K1 own_all0) K2 own_all0) K3 own_all0) K4 own_all0) K5 own_all0) K6 own_all0) K7 own_all0) K9 own_all0) K11 (own_allS (own_plainA F12) own_all0)) K14 (own_allS (own_plainA F16) own_all0)) K20 (own_allS (own_plainA F21) own_all0)) K27 (own_allS (own_plainA F28) own_all0)) K34 (own_allS (own_plainA F35) own_all0)) K41 (own_allS (own_plainA F42) own_all0)) K47 own_all0)
              have F60 := (own_E (own_E (own_E (own_E (own_E (own_E (own_E (own_E (own_E (own_E (own_E (own_E (own_E (own_E (own_E E_NULL_KEY K1) K2) K3) K4) K5) K6) K7) K9) K11) K14) K20) K27) K34) K41) K47)
              refine own_virtual Y49 hx (pc' := 206) (W := 0) (cl' := 9) (sl' := 25) (as' := [(.int (0 : Int32)), k0, v0]) (S' := []) (a := b47) hZ hown (own_w hw 20 rfl) (own_w hw 21 rfl) (notFace_of_selects (args := #[]) (mvT hZ (own_w hw 23 rfl))) (own_w hw 23 rfl) (own_w hw 22 rfl) (own_w hw 13 rfl) (own_w hw 24 rfl) (by decide) E47 (rm4_3 l Z a0 hw [] b47 k0 v0 w_NULL_KEY h47 n0 (own_sz Y49) F55 F58 F59 F60 (D47 (Or.inl (own_w hw 31 rfl)) (ty := (.object zs2)) (by decide)) E47 (Nat.le_trans Z0 sz_b47) (D47 (Or.inl (own_w hw 33 rfl)) (ty := (.object zs2)) (by decide))) (hb hby at_203) rfl (by rw [hml]; rfl) rfl (lenOf pd__ILjava_lang_Object_Ljava_lang_Object__V rfl) rfl (by decide) (by decide) rfl rfl (by decide) (by decide) P4_3_sz (own_fixR (S2 := []) rfl (fun T50 h50 Y50 R50 => ?_))
              obtain ⟨K50, G50_0, G50_1⟩ := R50
              refine own_iload Y50 hx (pc' := 208) (hb hby at_206) rfl rfl ?_
              refine own_iconst Y50 hx (pc' := 209) (x := (2 : Int32)) (hb hby at_208) rfl (by decide) ?_
              refine own_icmpNo Y50 hx (pc' := 212) (hb hby at_209) rfl (by decide) ?_
              refine own_aload Y50 hx (pc' := 214) (hb hby at_212) rfl rfl rfl ?_
              refine own_iconst Y50 hx (pc' := 215) (x := (1 : Int32)) (hb hby at_214) rfl (by decide) ?_
              refine own_aload Y50 hx (pc' := 217) (hb hby at_215) rfl rfl hr_k1 ?_
              refine own_aload Y50 hx (pc' := 219) (hb hby at_217) rfl rfl hr_v1 ?_
              have F62 := (own_E E47 K50)
              have F63 := (own_B (own_B (own_B (own_B F26 K20 (own_offS O23 own_off0)) K27 (own_offS O25 own_off0)) K34 (own_offS O23 own_off0)) K41 (own_offS O25 own_off0))
              have O64 := (own_offN F63 le47)
              have F65 := (own_B (own_B (own_B (own_B (own_B (own_B F26 K20 (own_offS O23 own_off0)) K27 (own_offS O25 own_off0)) K34 (own_offS O23 own_off0)) K41 (own_offS O25 own_off0)) K47 own_off0) K50 (own_offS O64 (own_offS O64 own_off0)))
              have F66 := (own_B (own_B (own_B F33 K27 (own_offS O32 own_off0)) K34 (own_offS O30 own_off0)) K41 (own_offS O32 own_off0))
              have O67 := (own_offN F66 le47)
              have F68 := (own_B (own_B (own_B (own_B (own_B F33 K27 (own_offS O32 own_off0)) K34 (own_offS O30 own_off0)) K41 (own_offS O32 own_off0)) K47 own_off0) K50 (own_offS O67 (own_offS O67 own_off0)))
              have F69 := (own_St F59 K50 (own_allS (own_plain E47) (own_allS (own_plain E47) own_all0)))
              have F70 := (own_E F60 K50)
              have F71 := (own_F (v := .null) (D47 (Or.inl (own_w hw 35 rfl)) (ty := (.object zs2)) (by decide)) K50 (own_nr (sl_2 hw) (own_nr (sl_3 hw) own_nin0)))
              have F72 := (own_F (v := .null) (D47 (Or.inl (own_w hw 37 rfl)) (ty := (.object zs2)) (by decide)) K50 (own_nr (sl_4 hw) (own_nr (sl_5 hw) own_nin0)))
              refine own_virtual Y50 hx (pc' := 222) (W := 0) (cl' := 9) (sl' := 25) (as' := [(.int (1 : Int32)), k1, v1]) (S' := []) (a := b47) hZ hown (own_w hw 20 rfl) (own_w hw 21 rfl) (notFace_of_selects (args := #[]) (mvT hZ (own_w hw 23 rfl))) (own_w hw 23 rfl) (own_w hw 22 rfl) (own_w hw 13 rfl) (own_w hw 24 rfl) (by decide) F62 (rm4_16 l Z a0 hw [] b47 k1 v1 w_NULL_KEY h50 n0 (own_sz Y50) F65 F68 F69 F70 F71 F62 (Nat.le_trans Z0 sz_b47) F72) (hb hby at_219) rfl (by rw [hml]; rfl) rfl (lenOf pd__ILjava_lang_Object_Ljava_lang_Object__V rfl) rfl (by decide) (by decide) rfl rfl (by decide) (by decide) P4_16_sz (own_fixR (S2 := []) rfl (fun T61 h61 Y61 R61 => ?_))
              obtain ⟨K61, G61_0, G61_1⟩ := R61
              refine own_iload Y61 hx (pc' := 224) (hb hby at_222) rfl rfl ?_
              refine own_iconst Y61 hx (pc' := 225) (x := (3 : Int32)) (hb hby at_224) rfl (by decide) ?_
              refine own_icmpNo Y61 hx (pc' := 228) (hb hby at_225) rfl (by decide) ?_
              refine own_aload Y61 hx (pc' := 230) (hb hby at_228) rfl rfl rfl ?_
              refine own_iconst Y61 hx (pc' := 231) (x := (2 : Int32)) (hb hby at_230) rfl (by decide) ?_
              refine own_aload Y61 hx (pc' := 233) (hb hby at_231) rfl rfl hr_k2 ?_
              refine own_aload Y61 hx (pc' := 235) (hb hby at_233) rfl rfl hr_v2 ?_
              have F74 := (own_E F62 K61)
              have F75 := (own_B (own_B F40 K34 (own_offS O37 own_off0)) K41 (own_offS O39 own_off0))
              have O76 := (own_offN F75 le47)
              have F77 := (own_B (own_B (own_B (own_B (own_B F40 K34 (own_offS O37 own_off0)) K41 (own_offS O39 own_off0)) K47 own_off0) K50 (own_offS O76 (own_offS O76 own_off0))) K61 (own_offS O76 (own_offS O76 own_off0)))
              have F78 := (own_B F46 K41 (own_offS O45 own_off0))
              have O79 := (own_offN F78 le47)
              have F80 := (own_B (own_B (own_B (own_B F46 K41 (own_offS O45 own_off0)) K47 own_off0) K50 (own_offS O79 (own_offS O79 own_off0))) K61 (own_offS O79 (own_offS O79 own_off0)))
              have F81 := (own_St F69 K61 (own_allS (own_plain F62) (own_allS (own_plain F62) own_all0)))
              have F82 := (own_E F70 K61)
              have F83 := (own_F (v := .null) (own_F (v := .null) (D47 (Or.inl (own_w hw 44 rfl)) (ty := (.object zs2)) (by decide)) K50 (own_nr (sl_6 hw) (own_nr (sl_7 hw) own_nin0))) K61 (own_nr (sl_12 hw) (own_nr (sl_13 hw) own_nin0)))
              have F84 := (own_F (v := .null) (own_F (v := .null) (D47 (Or.inl (own_w hw 46 rfl)) (ty := (.object zs2)) (by decide)) K50 (own_nr (sl_8 hw) (own_nr (sl_9 hw) own_nin0))) K61 (own_nr (sl_10 hw) (own_nr (sl_14 hw) own_nin0)))
              refine own_virtual Y61 hx (pc' := 238) (W := 0) (cl' := 9) (sl' := 25) (as' := [(.int (2 : Int32)), k2, v2]) (S' := []) (a := b47) hZ hown (own_w hw 20 rfl) (own_w hw 21 rfl) (notFace_of_selects (args := #[]) (mvT hZ (own_w hw 23 rfl))) (own_w hw 23 rfl) (own_w hw 22 rfl) (own_w hw 13 rfl) (own_w hw 24 rfl) (by decide) F74 (rm4_28 l Z a0 hw [] b47 k2 v2 w_NULL_KEY h61 n0 (own_sz Y61) F77 F80 F81 F82 F83 F74 (Nat.le_trans Z0 sz_b47) F84) (hb hby at_235) rfl (by rw [hml]; rfl) rfl (lenOf pd__ILjava_lang_Object_Ljava_lang_Object__V rfl) rfl (by decide) (by decide) rfl rfl (by decide) (by decide) P4_28_sz (own_fixR (S2 := []) rfl (fun T73 h73 Y73 R73 => ?_))
              obtain ⟨K73, G73_0, G73_1⟩ := R73
              refine own_aload Y73 hx (pc' := 240) (hb hby at_238) rfl rfl rfl ?_
              refine own_iload Y73 hx (pc' := 242) (hb hby at_240) rfl rfl ?_
              have F86 := (own_E F74 K73)
              have F87 := (own_B F77 K73 (own_offS O76 (own_offS O76 own_off0)))
              have F88 := (own_B F80 K73 (own_offS O79 (own_offS O79 own_off0)))
              refine own_virtual Y73 hx (pc' := 245) (W := 0) (cl' := 9) (sl' := 25) (as' := [(.int (2 : Int32))]) (S' := []) (a := b47) hZ hown (own_w hw 38 rfl) (own_w hw 39 rfl) (notFace_of_selects (args := #[]) (mvT hZ (own_w hw 41 rfl))) (own_w hw 41 rfl) (own_w hw 40 rfl) (own_w hw 13 rfl) (own_w hw 42 rfl) (by decide) F86 (rm6_41 l Z a0 hw [] b47 w_NULL_KEY k2 v2 h73 n0 (own_sz Y73) F87 G73_0 F86 (Nat.le_trans Z0 sz_b47) F88 G73_1) (hb hby at_242) rfl (by rw [hml]; rfl) rfl (lenOf pd__I_V rfl) rfl (by decide) (by decide) rfl rfl (by decide) (by decide) P6_41_sz (own_fixR (S2 := []) rfl (fun T85 h85 Y85 R85 => ?_))
              obtain ⟨K85, G85_0, G85_1⟩ := R85
              refine own_iconst Y85 hx (pc' := 246) (x := (0 : Int32)) (hb hby at_245) rfl (by decide) ?_
              refine own_iload Y85 hx (pc' := 248) (hb hby at_246) rfl rfl ?_
              refine own_icmpNo Y85 hx (pc' := 251) (hb hby at_248) rfl (by decide) ?_
              refine own_iconst Y85 hx (pc' := 252) (x := (0 : Int32)) (hb hby at_251) rfl (by decide) ?_
              refine own_goto Y85 hx (pc' := 256) (hb hby at_252) (by decide) (by decide) ?_
              refine own_istore Y85 hx (pc' := 258) (Ls' := #[.val (.int p0), .val (.int p1), .val (.int p2), .val (.int p3), .val (.int p4), .val (.int p5), .val (.int (3 : Int32)), .val (.int (2 : Int32)), .val k0, .val k1, .val k2, .val v0, .val v1, .val v2, .val (.ref b7), .val (.ref b9), .val (.ref b47), .val (.int (0 : Int32)), .unset, .unset, .unset]) (hb hby at_256) rfl rfl ?_
              refine own_iconst Y85 hx (pc' := 259) (x := (1 : Int32)) (hb hby at_258) rfl (by decide) ?_
              refine own_iload Y85 hx (pc' := 261) (hb hby at_259) rfl rfl ?_
              refine own_icmpNo Y85 hx (pc' := 264) (hb hby at_261) rfl (by decide) ?_
              refine own_iconst Y85 hx (pc' := 265) (x := (1 : Int32)) (hb hby at_264) rfl (by decide) ?_
              refine own_goto Y85 hx (pc' := 269) (hb hby at_265) (by decide) (by decide) ?_
              refine own_istore Y85 hx (pc' := 271) (Ls' := #[.val (.int p0), .val (.int p1), .val (.int p2), .val (.int p3), .val (.int p4), .val (.int p5), .val (.int (3 : Int32)), .val (.int (2 : Int32)), .val k0, .val k1, .val k2, .val v0, .val v1, .val v2, .val (.ref b7), .val (.ref b9), .val (.ref b47), .val (.int (0 : Int32)), .val (.int (1 : Int32)), .unset, .unset]) (hb hby at_269) rfl rfl ?_
              refine own_iconst Y85 hx (pc' := 272) (x := (2 : Int32)) (hb hby at_271) rfl (by decide) ?_
              refine own_iload Y85 hx (pc' := 274) (hb hby at_272) rfl rfl ?_
              refine own_icmpYes Y85 hx (pc' := 281) (hb hby at_274) (by decide) (by decide) (by decide) ?_
              refine own_iconst Y85 hx (pc' := 282) (x := (3 : Int32)) (hb hby at_281) rfl (by decide) ?_
              refine own_istore Y85 hx (pc' := 284) (Ls' := #[.val (.int p0), .val (.int p1), .val (.int p2), .val (.int p3), .val (.int p4), .val (.int p5), .val (.int (3 : Int32)), .val (.int (2 : Int32)), .val k0, .val k1, .val k2, .val v0, .val v1, .val v2, .val (.ref b7), .val (.ref b9), .val (.ref b47), .val (.int (0 : Int32)), .val (.int (1 : Int32)), .val (.int (3 : Int32)), .unset]) (hb hby at_282) rfl rfl ?_
              refine own_aload Y85 hx (pc' := 286) (hb hby at_284) rfl rfl rfl ?_
              have F90 := (own_E F86 K85)
              have F91 := (own_F (v := (.ref (own_sa w_NULL_KEY k0))) (own_F (v := (.ref (own_sa w_NULL_KEY k0))) (own_F (v := (.ref (own_sa w_NULL_KEY k0))) G50_0 K61 (own_nr (sl_16 hw) (own_nr (sl_17 hw) own_nin0))) K73 (own_nr (sl_18 hw) (own_nr (sl_19 hw) own_nin0))) K85 (own_nr (sl_18 hw) (own_nr (sl_19 hw) own_nin0)))
              have F92 := (own_B (own_B (own_B (own_B (own_B (own_B F13 K11 (own_offS O52 own_off0)) K14 (own_offS O54 own_off0)) K20 (own_offS O52 own_off0)) K27 (own_offS O54 own_off0)) K34 (own_offS O52 own_off0)) K41 (own_offS O54 own_off0))
              have O93 := (own_offN F92 le47)
              have F94 := (own_B (own_B (own_B (own_B F55 K50 (own_offS O93 (own_offS O93 own_off0))) K61 (own_offS O93 (own_offS O93 own_off0))) K73 (own_offS O93 (own_offS O93 own_off0))) K85 (own_offS O93 (own_offS O93 own_off0)))
              have F95 := (own_F (v := (.ref (own_sa w_NULL_KEY k1))) (own_F (v := (.ref (own_sa w_NULL_KEY k1))) G61_0 K73 (own_nr (sl_25 hw) (own_nr (sl_26 hw) own_nin0))) K85 (own_nr (sl_25 hw) (own_nr (sl_26 hw) own_nin0)))
              have F96 := (own_B (own_B (own_B F65 K61 (own_offS O64 (own_offS O64 own_off0))) K73 (own_offS O64 (own_offS O64 own_off0))) K85 (own_offS O64 (own_offS O64 own_off0)))
              refine own_virtual Y85 hx (pc' := 289) (W := 0) (cl' := 9) (sl' := 25) (as' := []) (S' := []) (a := b47) hZ hown (own_w hw 47 rfl) (own_w hw 48 rfl) (notFace_of_selects (args := #[]) (mvT hZ (own_w hw 50 rfl))) (own_w hw 50 rfl) (own_w hw 49 rfl) (own_w hw 13 rfl) (own_w hw 51 rfl) (by decide) F90 (rm7_42 l Z a0 hw [] b47 w_NULL_KEY k0 k1 h85 n0 (own_sz Y85) F94 F91 F96 F95 G85_0) (hb hby at_286) rfl (by rw [hml]; rfl) rfl (lenOf pd___I rfl) rfl (by decide) (by decide) rfl rfl (by decide) (by decide) own_Same.sz (own_fixS (S2 := [(.int (2 : Int32))]) rfl (fun T89 Y89 => ?_))
              refine own_iload Y89 hx (pc' := 291) (hb hby at_289) rfl rfl ?_
              refine own_iconst Y89 hx (pc' := 292) (x := (1 : Int32)) (hb hby at_291) rfl (by decide) ?_
              refine own_isub Y89 hx (pc' := 293) (hb hby at_292) rfl (z := (2 : Int32)) (by decide) ?_
              refine own_icmpNo Y89 hx (pc' := 296) (hb hby at_293) rfl (by decide) ?_
              refine own_iconst Y89 hx (pc' := 297) (x := (1 : Int32)) (hb hby at_296) rfl (by decide) ?_
              refine own_goto Y89 hx (pc' := 301) (hb hby at_297) (by decide) (by decide) ?_
              refine own_istore Y89 hx (pc' := 303) (Ls' := #[.val (.int p0), .val (.int p1), .val (.int p2), .val (.int p3), .val (.int p4), .val (.int p5), .val (.int (3 : Int32)), .val (.int (2 : Int32)), .val k0, .val k1, .val k2, .val v0, .val v1, .val v2, .val (.ref b7), .val (.ref b9), .val (.ref b47), .val (.int (0 : Int32)), .val (.int (1 : Int32)), .val (.int (3 : Int32)), .val (.int (1 : Int32))]) (hb hby at_301) rfl rfl ?_
              refine own_iload Y89 hx (pc' := 305) (hb hby at_303) rfl rfl ?_
              refine own_ifNo Y89 hx (pc' := 308) (hb hby at_305) rfl (by decide) ?_
              refine own_aload Y89 hx (pc' := 310) (hb hby at_308) rfl rfl rfl ?_
              refine own_iconst Y89 hx (pc' := 311) (x := (0 : Int32)) (hb hby at_310) rfl (by decide) ?_
              have F98 := (own_E (own_E F82 K73) K85)
              have F99 := (own_St (own_St F81 K73 (own_allS (own_plain F74) (own_allS (own_plain F74) own_all0))) K85 (own_allS (own_plain F86) (own_allS (own_plain F86) own_all0)))
              refine own_virtual Y89 hx (pc' := 314) (W := 0) (cl' := 9) (sl' := 25) (as' := [(.int (0 : Int32))]) (S' := []) (a := b47) hZ hown (own_w hw 52 rfl) (own_w hw 53 rfl) (notFace_of_selects (args := #[]) (mvT hZ (own_w hw 55 rfl))) (own_w hw 55 rfl) (own_w hw 54 rfl) (own_w hw 13 rfl) (own_w hw 56 rfl) (by decide) F90 (rm8_43 l Z a0 hw [] b47 w_NULL_KEY k0 h85 n0 (own_sz Y89) F94 F91 F98 F99) (hb hby at_311) rfl (by rw [hml]; rfl) rfl (lenOf pd__I_Ljava_lang_Object_ rfl) rfl (by decide) (by decide) rfl rfl (by decide) (by decide) own_Same.sz (own_fixS (S2 := [k0]) rfl (fun T97 Y97 => ?_))
              refine own_castB Y97 hx (pc' := 317) hZ hown (own_w hw 8 rfl) F94 (hb hby at_314) rfl (fun T100 Y100 => ?_)
              refine own_aload Y100 hx (pc' := 319) (hb hby at_317) rfl rfl rfl ?_
              refine own_iload Y100 hx (pc' := 321) (hb hby at_319) rfl rfl ?_
              have F102 := (own_A V34 K41 (own_out D15 own_out0))
              have D103 : b7 ≠ b47 := (Nat.ne_of_lt (Nat.lt_of_lt_of_le F102.lt le47))
              have F104 := (own_A (own_A (own_A (own_A (own_A (own_A V34 K41 (own_out D15 own_out0)) K47 own_out0) K50 (own_out D103 (own_out D103 own_out0))) K61 (own_out D103 (own_out D103 own_out0))) K73 (own_out D103 (own_out D103 own_out0))) K85 (own_out D103 (own_out D103 own_out0)))
              refine own_aald Y100 hx (pc' := 322) (v := k0) hZ F104 (by decide) rfl rfl (hb hby at_321) rfl ?_
              refine own_static Y100 hx (pc' := 325) (W := 0) (cl' := 9) (sl' := 25) (as' := [k0, k0]) (S' := []) hZ hown (own_w hw 60 rfl) (own_w hw 61 rfl) (own_w hw 62 rfl) (own_w hw 63 rfl) (by decide) (rm10_22 l Z a0 hw [] k0 h85 n0 (own_sz Y100) F94) (hb hby at_322) rfl (by rw [hml]; rfl) rfl (lenOf pd__Ljava_lang_Integer_Ljava_lang_Integer__Z rfl) rfl (by decide) (by decide) rfl rfl (by decide) (by decide) own_Same.sz (own_fixS (S2 := [(.int (1 : Int32))]) rfl (fun T105 Y105 => ?_))
              refine own_ifNo Y105 hx (pc' := 328) (hb hby at_325) rfl (by decide) ?_
              refine own_iconst Y105 hx (pc' := 329) (x := (1 : Int32)) (hb hby at_328) rfl (by decide) ?_
              refine own_goto Y105 hx (pc' := 333) (hb hby at_329) (by decide) (by decide) ?_
              refine own_istore Y105 hx (pc' := 335) (Ls' := #[.val (.int p0), .val (.int p1), .val (.int p2), .val (.int p3), .val (.int p4), .val (.int p5), .val (.int (3 : Int32)), .val (.int (2 : Int32)), .val k0, .val k1, .val k2, .val v0, .val v1, .val v2, .val (.ref b7), .val (.ref b9), .val (.ref b47), .val (.int (0 : Int32)), .val (.int (1 : Int32)), .val (.int (3 : Int32)), .val (.int (1 : Int32))]) (hb hby at_333) rfl rfl ?_
              refine own_iload Y105 hx (pc' := 337) (hb hby at_335) rfl rfl ?_
              refine own_ifNo Y105 hx (pc' := 340) (hb hby at_337) rfl (by decide) ?_
              refine own_aload Y105 hx (pc' := 342) (hb hby at_340) rfl rfl rfl ?_
              refine own_iconst Y105 hx (pc' := 343) (x := (1 : Int32)) (hb hby at_342) rfl (by decide) ?_
              refine own_virtual Y105 hx (pc' := 346) (W := 0) (cl' := 9) (sl' := 25) (as' := [(.int (1 : Int32))]) (S' := []) (a := b47) hZ hown (own_w hw 52 rfl) (own_w hw 53 rfl) (notFace_of_selects (args := #[]) (mvT hZ (own_w hw 55 rfl))) (own_w hw 55 rfl) (own_w hw 54 rfl) (own_w hw 13 rfl) (own_w hw 56 rfl) (by decide) F90 (rm8_44 l Z a0 hw [] b47 w_NULL_KEY k1 h85 n0 (own_sz Y105) F96 F95 F98 F99) (hb hby at_343) rfl (by rw [hml]; rfl) rfl (lenOf pd__I_Ljava_lang_Object_ rfl) rfl (by decide) (by decide) rfl rfl (by decide) (by decide) own_Same.sz (own_fixS (S2 := [k1]) rfl (fun T106 Y106 => ?_))
              refine own_castB Y106 hx (pc' := 349) hZ hown (own_w hw 8 rfl) F96 (hb hby at_346) rfl (fun T107 Y107 => ?_)
              refine own_aload Y107 hx (pc' := 351) (hb hby at_349) rfl rfl rfl ?_
              refine own_iload Y107 hx (pc' := 353) (hb hby at_351) rfl rfl ?_
              refine own_aald Y107 hx (pc' := 354) (v := k1) hZ F104 (by decide) rfl rfl (hb hby at_353) rfl ?_
              refine own_static Y107 hx (pc' := 357) (W := 0) (cl' := 9) (sl' := 25) (as' := [k1, k1]) (S' := []) hZ hown (own_w hw 60 rfl) (own_w hw 61 rfl) (own_w hw 62 rfl) (own_w hw 63 rfl) (by decide) (rm10_22 l Z a0 hw [] k1 h85 n0 (own_sz Y107) F96) (hb hby at_354) rfl (by rw [hml]; rfl) rfl (lenOf pd__Ljava_lang_Integer_Ljava_lang_Integer__Z rfl) rfl (by decide) (by decide) rfl rfl (by decide) (by decide) own_Same.sz (own_fixS (S2 := [(.int (1 : Int32))]) rfl (fun T109 Y109 => ?_))
              refine own_ifNo Y109 hx (pc' := 360) (hb hby at_357) rfl (by decide) ?_
              refine own_iconst Y109 hx (pc' := 361) (x := (1 : Int32)) (hb hby at_360) rfl (by decide) ?_
              refine own_goto Y109 hx (pc' := 365) (hb hby at_361) (by decide) (by decide) ?_
              refine own_istore Y109 hx (pc' := 367) (Ls' := #[.val (.int p0), .val (.int p1), .val (.int p2), .val (.int p3), .val (.int p4), .val (.int p5), .val (.int (3 : Int32)), .val (.int (2 : Int32)), .val k0, .val k1, .val k2, .val v0, .val v1, .val v2, .val (.ref b7), .val (.ref b9), .val (.ref b47), .val (.int (0 : Int32)), .val (.int (1 : Int32)), .val (.int (3 : Int32)), .val (.int (1 : Int32))]) (hb hby at_365) rfl rfl ?_
              refine own_iload Y109 hx (pc' := 369) (hb hby at_367) rfl rfl ?_
              refine own_ifNo Y109 hx (pc' := 372) (hb hby at_369) rfl (by decide) ?_
              refine own_aload Y109 hx (pc' := 374) (hb hby at_372) rfl rfl rfl ?_
              refine own_iconst Y109 hx (pc' := 375) (x := (0 : Int32)) (hb hby at_374) rfl (by decide) ?_
              have F111 := (own_F (v := v0) (own_F (v := v0) (own_F (v := v0) G50_1 K61 (own_nr (sl_20 hw) (own_nr (sl_21 hw) own_nin0))) K73 (own_nr (sl_22 hw) (own_nr (sl_23 hw) own_nin0))) K85 (own_nr (sl_22 hw) (own_nr (sl_23 hw) own_nin0)))
              have F112 := (own_B (own_B (own_B (own_B (own_B F19 K14 (own_offS O57 own_off0)) K20 (own_offS O18 own_off0)) K27 (own_offS O57 own_off0)) K34 (own_offS O18 own_off0)) K41 (own_offS O57 own_off0))
              have O113 := (own_offN F112 le47)
              have F114 := (own_B (own_B (own_B (own_B F58 K50 (own_offS O113 (own_offS O113 own_off0))) K61 (own_offS O113 (own_offS O113 own_off0))) K73 (own_offS O113 (own_offS O113 own_off0))) K85 (own_offS O113 (own_offS O113 own_off0)))
              refine own_virtual Y109 hx (pc' := 378) (W := 0) (cl' := 9) (sl' := 25) (as' := [(.int (0 : Int32))]) (S' := []) (a := b47) hZ hown (own_w hw 64 rfl) (own_w hw 65 rfl) (notFace_of_selects (args := #[]) (mvT hZ (own_w hw 67 rfl))) (own_w hw 67 rfl) (own_w hw 66 rfl) (own_w hw 13 rfl) (own_w hw 68 rfl) (by decide) F90 (rm11_45 l Z a0 hw [] b47 v0 h85 n0 (own_sz Y109) F114 F111) (hb hby at_375) rfl (by rw [hml]; rfl) rfl (lenOf pd__I_Ljava_lang_Object_ rfl) rfl (by decide) (by decide) rfl rfl (by decide) (by decide) own_Same.sz (own_fixS (S2 := [v0]) rfl (fun T110 Y110 => ?_))
              refine own_castB Y110 hx (pc' := 381) hZ hown (own_w hw 8 rfl) F114 (hb hby at_378) rfl (fun T115 Y115 => ?_)
              refine own_aload Y115 hx (pc' := 383) (hb hby at_381) rfl rfl rfl ?_
              refine own_iload Y115 hx (pc' := 385) (hb hby at_383) rfl rfl ?_
              have D117 : b9 ≠ b47 := (Nat.ne_of_lt (Nat.lt_of_lt_of_le V41.lt le47))
              have F118 := (own_A (own_A (own_A (own_A (own_A V41 K47 own_out0) K50 (own_out D117 (own_out D117 own_out0))) K61 (own_out D117 (own_out D117 own_out0))) K73 (own_out D117 (own_out D117 own_out0))) K85 (own_out D117 (own_out D117 own_out0)))
              refine own_aald Y115 hx (pc' := 386) (v := v0) hZ F118 (by decide) rfl rfl (hb hby at_385) rfl ?_
              refine own_static Y115 hx (pc' := 389) (W := 0) (cl' := 9) (sl' := 25) (as' := [v0, v0]) (S' := []) hZ hown (own_w hw 60 rfl) (own_w hw 61 rfl) (own_w hw 62 rfl) (own_w hw 63 rfl) (by decide) (rm10_22 l Z a0 hw [] v0 h85 n0 (own_sz Y115) F114) (hb hby at_386) rfl (by rw [hml]; rfl) rfl (lenOf pd__Ljava_lang_Integer_Ljava_lang_Integer__Z rfl) rfl (by decide) (by decide) rfl rfl (by decide) (by decide) own_Same.sz (own_fixS (S2 := [(.int (1 : Int32))]) rfl (fun T119 Y119 => ?_))
              refine own_ifNo Y119 hx (pc' := 392) (hb hby at_389) rfl (by decide) ?_
              refine own_iconst Y119 hx (pc' := 393) (x := (1 : Int32)) (hb hby at_392) rfl (by decide) ?_
              refine own_goto Y119 hx (pc' := 397) (hb hby at_393) (by decide) (by decide) ?_
              refine own_istore Y119 hx (pc' := 399) (Ls' := #[.val (.int p0), .val (.int p1), .val (.int p2), .val (.int p3), .val (.int p4), .val (.int p5), .val (.int (3 : Int32)), .val (.int (2 : Int32)), .val k0, .val k1, .val k2, .val v0, .val v1, .val v2, .val (.ref b7), .val (.ref b9), .val (.ref b47), .val (.int (0 : Int32)), .val (.int (1 : Int32)), .val (.int (3 : Int32)), .val (.int (1 : Int32))]) (hb hby at_397) rfl rfl ?_
              refine own_iload Y119 hx (pc' := 401) (hb hby at_399) rfl rfl ?_
              refine own_ifNo Y119 hx (pc' := 404) (hb hby at_401) rfl (by decide) ?_
              refine own_aload Y119 hx (pc' := 406) (hb hby at_404) rfl rfl rfl ?_
              refine own_iconst Y119 hx (pc' := 407) (x := (1 : Int32)) (hb hby at_406) rfl (by decide) ?_
              have F121 := (own_F (v := v1) (own_F (v := v1) G61_1 K73 (own_nr (sl_27 hw) (own_nr (sl_28 hw) own_nin0))) K85 (own_nr (sl_27 hw) (own_nr (sl_28 hw) own_nin0)))
              have F122 := (own_B (own_B (own_B F68 K61 (own_offS O67 (own_offS O67 own_off0))) K73 (own_offS O67 (own_offS O67 own_off0))) K85 (own_offS O67 (own_offS O67 own_off0)))
              refine own_virtual Y119 hx (pc' := 410) (W := 0) (cl' := 9) (sl' := 25) (as' := [(.int (1 : Int32))]) (S' := []) (a := b47) hZ hown (own_w hw 64 rfl) (own_w hw 65 rfl) (notFace_of_selects (args := #[]) (mvT hZ (own_w hw 67 rfl))) (own_w hw 67 rfl) (own_w hw 66 rfl) (own_w hw 13 rfl) (own_w hw 68 rfl) (by decide) F90 (rm11_46 l Z a0 hw [] b47 v1 h85 n0 (own_sz Y119) F122 F121) (hb hby at_407) rfl (by rw [hml]; rfl) rfl (lenOf pd__I_Ljava_lang_Object_ rfl) rfl (by decide) (by decide) rfl rfl (by decide) (by decide) own_Same.sz (own_fixS (S2 := [v1]) rfl (fun T120 Y120 => ?_))
              refine own_castB Y120 hx (pc' := 413) hZ hown (own_w hw 8 rfl) F122 (hb hby at_410) rfl (fun T123 Y123 => ?_)
              refine own_aload Y123 hx (pc' := 415) (hb hby at_413) rfl rfl rfl ?_
              refine own_iload Y123 hx (pc' := 417) (hb hby at_415) rfl rfl ?_
              refine own_aald Y123 hx (pc' := 418) (v := v1) hZ F118 (by decide) rfl rfl (hb hby at_417) rfl ?_
              refine own_static Y123 hx (pc' := 421) (W := 0) (cl' := 9) (sl' := 25) (as' := [v1, v1]) (S' := []) hZ hown (own_w hw 60 rfl) (own_w hw 61 rfl) (own_w hw 62 rfl) (own_w hw 63 rfl) (by decide) (rm10_22 l Z a0 hw [] v1 h85 n0 (own_sz Y123) F122) (hb hby at_418) rfl (by rw [hml]; rfl) rfl (lenOf pd__Ljava_lang_Integer_Ljava_lang_Integer__Z rfl) rfl (by decide) (by decide) rfl rfl (by decide) (by decide) own_Same.sz (own_fixS (S2 := [(.int (1 : Int32))]) rfl (fun T125 Y125 => ?_))
              refine own_ifNo Y125 hx (pc' := 424) (hb hby at_421) rfl (by decide) ?_
              refine own_iconst Y125 hx (pc' := 425) (x := (1 : Int32)) (hb hby at_424) rfl (by decide) ?_
              refine own_goto Y125 hx (pc' := 429) (hb hby at_425) (by decide) (by decide) ?_
              refine own_istore Y125 hx (pc' := 431) (Ls' := #[.val (.int p0), .val (.int p1), .val (.int p2), .val (.int p3), .val (.int p4), .val (.int p5), .val (.int (3 : Int32)), .val (.int (2 : Int32)), .val k0, .val k1, .val k2, .val v0, .val v1, .val v2, .val (.ref b7), .val (.ref b9), .val (.ref b47), .val (.int (0 : Int32)), .val (.int (1 : Int32)), .val (.int (3 : Int32)), .val (.int (1 : Int32))]) (hb hby at_429) rfl rfl ?_
              refine own_iload Y125 hx (pc' := 433) (hb hby at_431) rfl rfl ?_
              refine own_ifNo Y125 hx (pc' := 436) (hb hby at_433) rfl (by decide) ?_
              refine own_aload Y125 hx (pc' := 438) (hb hby at_436) rfl rfl rfl ?_
              refine own_iconst Y125 hx (pc' := 439) (x := (2 : Int32)) (hb hby at_438) rfl (by decide) ?_
              refine own_virtual Y125 hx (pc' := 442) (W := 0) (cl' := 9) (sl' := 25) (as' := [(.int (2 : Int32))]) (S' := []) (a := b47) hZ hown (own_w hw 64 rfl) (own_w hw 65 rfl) (notFace_of_selects (args := #[]) (mvT hZ (own_w hw 67 rfl))) (own_w hw 67 rfl) (own_w hw 66 rfl) (own_w hw 13 rfl) (own_w hw 68 rfl) (by decide) F90 (rm11_12 l Z a0 hw [] b47 h85 n0 (own_sz Y125) G85_1) (hb hby at_439) rfl (by rw [hml]; rfl) rfl (lenOf pd__I_Ljava_lang_Object_ rfl) rfl (by decide) (by decide) rfl rfl (by decide) (by decide) own_Same.sz (own_fixS (S2 := [.null]) rfl (fun T126 Y126 => ?_))
              refine own_castNull Y126 hx (pc' := 445) (hb hby at_442) rfl ?_
              refine own_aload Y126 hx (pc' := 447) (hb hby at_445) rfl rfl rfl ?_
              refine own_iload Y126 hx (pc' := 449) (hb hby at_447) rfl rfl ?_
              refine own_aald Y126 hx (pc' := 450) (v := .null) hZ F118 (by decide) rfl rfl (hb hby at_449) rfl ?_
              refine own_static Y126 hx (pc' := 453) (W := 0) (cl' := 9) (sl' := 25) (as' := [.null, .null]) (S' := []) hZ hown (own_w hw 60 rfl) (own_w hw 61 rfl) (own_w hw 62 rfl) (own_w hw 63 rfl) (by decide) (rm10_8 l Z a0 hw []  h85 n0 (own_sz Y126)) (hb hby at_450) rfl (by rw [hml]; rfl) rfl (lenOf pd__Ljava_lang_Integer_Ljava_lang_Integer__Z rfl) rfl (by decide) (by decide) rfl rfl (by decide) (by decide) own_Same.sz (own_fixS (S2 := [(.int (1 : Int32))]) rfl (fun T128 Y128 => ?_))
              refine own_ifNo Y128 hx (pc' := 456) (hb hby at_453) rfl (by decide) ?_
              refine own_iconst Y128 hx (pc' := 457) (x := (1 : Int32)) (hb hby at_456) rfl (by decide) ?_
              refine own_goto Y128 hx (pc' := 461) (hb hby at_457) (by decide) (by decide) ?_
              refine own_istore Y128 hx (pc' := 463) (Ls' := #[.val (.int p0), .val (.int p1), .val (.int p2), .val (.int p3), .val (.int p4), .val (.int p5), .val (.int (3 : Int32)), .val (.int (2 : Int32)), .val k0, .val k1, .val k2, .val v0, .val v1, .val v2, .val (.ref b7), .val (.ref b9), .val (.ref b47), .val (.int (0 : Int32)), .val (.int (1 : Int32)), .val (.int (3 : Int32)), .val (.int (1 : Int32))]) (hb hby at_461) rfl rfl ?_
              refine own_iload Y128 hx (pc' := 465) (hb hby at_463) rfl rfl ?_
              exact own_retN Y128 hx hlk Bd.returns rfl (by simp) (hb hby at_465) ⟨rfl, trivial⟩ (by decide) (by decide)
            by_cases qF129 : (p5 &&& (32 : Int32)) = (0 : Int32)
            ·
              refine own_ifYes Y5 hx (pc' := 120) (hb hby at_113) ((if0 _ _).trans (teq qF129).1) (by decide) (by decide) ?_
              refine own_bipush Y5 hx (pc' := 122) (x := (-3 : Int32)) (hb hby at_120) rfl (by decide) ?_
              have F131 := (own_St (own_St (own_St (own_St (own_St S_high K1 own_all0) K2 own_all0) K3 own_all0) K4 own_all0) K5 own_all0)
              have F132 := (own_St (own_St (own_St (own_St (own_St S_cache K1 own_all0) K2 own_all0) K3 own_all0) K4 own_all0) K5 own_all0)
              have F133 := (own_CacheK (own_CacheK (own_CacheK (own_CacheK (own_CacheK H_cache K1) K2) K3) K4) K5)
              refine own_static Y5 hx (pc' := 125) (W := 0) (cl' := 6) (sl' := 6) (as' := [(.int (-3 : Int32))]) (S' := []) hZ hown (own_w hw 1 rfl) (own_w hw 2 rfl) (own_w hw 3 rfl) (own_w hw 4 rfl) (by decide) (rm1_15 l Z a0 hw [] (-3 : Int32) w_cache h5 n0 (own_sz Y5) F131 F132 F133) (hb hby at_122) rfl (by rw [hml]; rfl) rfl (lenOf pd__I_Ljava_lang_Integer_ rfl) rfl (by decide) (by decide) rfl rfl (by decide) (by decide) own_PV_sz (fun T130 h130 v130 Y130 R130 => ?_)
              obtain ⟨b130_0, rfl, K130, E130, F130⟩ := R130
              show own_Fin p e below _ (T130.setTop (mkF m 125 #[.val (.int p0), .val (.int p1), .val (.int p2), .val (.int p3), .val (.int p4), .val (.int p5), .val (.int (3 : Int32)), .val (.int (2 : Int32)), .val k0, .val k1, .val k2, .val v0, .val v1, .unset, .unset, .unset, .unset, .unset, .unset, .unset, .unset] [(.ref b130_0)]))
              exact J125 _ _ _ Y130 K130 (Or.inr ⟨b130_0, _, rfl, E130, F130⟩)
            ·
              refine own_ifNo Y5 hx (pc' := 116) (hb hby at_113) rfl ((if0 _ _).trans (feq qF129).1) ?_
              refine own_aconstNull Y5 hx (pc' := 117) (hb hby at_116) rfl ?_
              refine own_goto Y5 hx (pc' := 125) (hb hby at_117) (by decide) (by decide) ?_
              exact J125 _ _ .null (own_more Y5 (by decide) (by decide)) (own_Kp.refl _ _) (Or.inl rfl)
          by_cases qF134 : (p5 &&& (16 : Int32)) = (0 : Int32)
          ·
            refine own_ifYes Y4 hx (pc' := 101) (hb hby at_94) ((if0 _ _).trans (teq qF134).1) (by decide) (by decide) ?_
            refine own_bipush Y4 hx (pc' := 103) (x := (-2 : Int32)) (hb hby at_101) rfl (by decide) ?_
            have F136 := (own_St (own_St (own_St (own_St S_high K1 own_all0) K2 own_all0) K3 own_all0) K4 own_all0)
            have F137 := (own_St (own_St (own_St (own_St S_cache K1 own_all0) K2 own_all0) K3 own_all0) K4 own_all0)
            have F138 := (own_CacheK (own_CacheK (own_CacheK (own_CacheK H_cache K1) K2) K3) K4)
            refine own_static Y4 hx (pc' := 106) (W := 0) (cl' := 5) (sl' := 5) (as' := [(.int (-2 : Int32))]) (S' := []) hZ hown (own_w hw 1 rfl) (own_w hw 2 rfl) (own_w hw 3 rfl) (own_w hw 4 rfl) (by decide) (rm1_15 l Z a0 hw [] (-2 : Int32) w_cache h4 n0 (own_sz Y4) F136 F137 F138) (hb hby at_103) rfl (by rw [hml]; rfl) rfl (lenOf pd__I_Ljava_lang_Integer_ rfl) rfl (by decide) (by decide) rfl rfl (by decide) (by decide) own_PV_sz (fun T135 h135 v135 Y135 R135 => ?_)
            obtain ⟨b135_0, rfl, K135, E135, F135⟩ := R135
            show own_Fin p e below _ (T135.setTop (mkF m 106 #[.val (.int p0), .val (.int p1), .val (.int p2), .val (.int p3), .val (.int p4), .val (.int p5), .val (.int (3 : Int32)), .val (.int (2 : Int32)), .val k0, .val k1, .val k2, .val v0, .unset, .unset, .unset, .unset, .unset, .unset, .unset, .unset, .unset] [(.ref b135_0)]))
            exact J106 _ _ _ Y135 K135 (Or.inr ⟨b135_0, _, rfl, E135, F135⟩)
          ·
            refine own_ifNo Y4 hx (pc' := 97) (hb hby at_94) rfl ((if0 _ _).trans (feq qF134).1) ?_
            refine own_aconstNull Y4 hx (pc' := 98) (hb hby at_97) rfl ?_
            refine own_goto Y4 hx (pc' := 106) (hb hby at_98) (by decide) (by decide) ?_
            exact J106 _ _ .null (own_more Y4 (by decide) (by decide)) (own_Kp.refl _ _) (Or.inl rfl)
        by_cases qF139 : (p5 &&& (8 : Int32)) = (0 : Int32)
        ·
          refine own_ifYes Y3 hx (pc' := 83) (hb hby at_76) ((if0 _ _).trans (teq qF139).1) (by decide) (by decide) ?_
          refine own_iconst Y3 hx (pc' := 84) (x := (-1 : Int32)) (hb hby at_83) rfl (by decide) ?_
          have F141 := (own_St (own_St (own_St S_high K1 own_all0) K2 own_all0) K3 own_all0)
          have F142 := (own_St (own_St (own_St S_cache K1 own_all0) K2 own_all0) K3 own_all0)
          have F143 := (own_CacheK (own_CacheK (own_CacheK H_cache K1) K2) K3)
          refine own_static Y3 hx (pc' := 87) (W := 0) (cl' := 4) (sl' := 4) (as' := [(.int (-1 : Int32))]) (S' := []) hZ hown (own_w hw 1 rfl) (own_w hw 2 rfl) (own_w hw 3 rfl) (own_w hw 4 rfl) (by decide) (rm1_15 l Z a0 hw [] (-1 : Int32) w_cache h3 n0 (own_sz Y3) F141 F142 F143) (hb hby at_84) rfl (by rw [hml]; rfl) rfl (lenOf pd__I_Ljava_lang_Integer_ rfl) rfl (by decide) (by decide) rfl rfl (by decide) (by decide) own_PV_sz (fun T140 h140 v140 Y140 R140 => ?_)
          obtain ⟨b140_0, rfl, K140, E140, F140⟩ := R140
          show own_Fin p e below _ (T140.setTop (mkF m 87 #[.val (.int p0), .val (.int p1), .val (.int p2), .val (.int p3), .val (.int p4), .val (.int p5), .val (.int (3 : Int32)), .val (.int (2 : Int32)), .val k0, .val k1, .val k2, .unset, .unset, .unset, .unset, .unset, .unset, .unset, .unset, .unset, .unset] [(.ref b140_0)]))
          exact J87 _ _ _ Y140 K140 (Or.inr ⟨b140_0, _, rfl, E140, F140⟩)
        ·
          refine own_ifNo Y3 hx (pc' := 79) (hb hby at_76) rfl ((if0 _ _).trans (feq qF139).1) ?_
          refine own_aconstNull Y3 hx (pc' := 80) (hb hby at_79) rfl ?_
          refine own_goto Y3 hx (pc' := 87) (hb hby at_80) (by decide) (by decide) ?_
          exact J87 _ _ .null (own_more Y3 (by decide) (by decide)) (own_Kp.refl _ _) (Or.inl rfl)
      by_cases qF144 : (p5 &&& (4 : Int32)) = (0 : Int32)
      ·
        refine own_ifYes Y2 hx (pc' := 65) (hb hby at_58) ((if0 _ _).trans (teq qF144).1) (by decide) (by decide) ?_
        refine own_iloadN Y2 hx (pc' := 66) (hb hby at_65) rfl rfl ?_
        have F146 := (own_St (own_St S_high K1 own_all0) K2 own_all0)
        have F147 := (own_St (own_St S_cache K1 own_all0) K2 own_all0)
        have F148 := (own_CacheK (own_CacheK H_cache K1) K2)
        refine own_static Y2 hx (pc' := 69) (W := 0) (cl' := 3) (sl' := 3) (as' := [(.int p2)]) (S' := []) hZ hown (own_w hw 1 rfl) (own_w hw 2 rfl) (own_w hw 3 rfl) (own_w hw 4 rfl) (by decide) (rm1_15 l Z a0 hw [] p2 w_cache h2 n0 (own_sz Y2) F146 F147 F148) (hb hby at_66) rfl (by rw [hml]; rfl) rfl (lenOf pd__I_Ljava_lang_Integer_ rfl) rfl (by decide) (by decide) rfl rfl (by decide) (by decide) own_PV_sz (fun T145 h145 v145 Y145 R145 => ?_)
        obtain ⟨b145_0, rfl, K145, E145, F145⟩ := R145
        show own_Fin p e below _ (T145.setTop (mkF m 69 #[.val (.int p0), .val (.int p1), .val (.int p2), .val (.int p3), .val (.int p4), .val (.int p5), .val (.int (3 : Int32)), .val (.int (2 : Int32)), .val k0, .val k1, .unset, .unset, .unset, .unset, .unset, .unset, .unset, .unset, .unset, .unset, .unset] [(.ref b145_0)]))
        exact J69 _ _ _ Y145 K145 (Or.inr ⟨b145_0, _, rfl, E145, F145⟩)
      ·
        refine own_ifNo Y2 hx (pc' := 61) (hb hby at_58) rfl ((if0 _ _).trans (feq qF144).1) ?_
        refine own_aconstNull Y2 hx (pc' := 62) (hb hby at_61) rfl ?_
        refine own_goto Y2 hx (pc' := 69) (hb hby at_62) (by decide) (by decide) ?_
        exact J69 _ _ .null (own_more Y2 (by decide) (by decide)) (own_Kp.refl _ _) (Or.inl rfl)
    by_cases qF149 : (p5 &&& (2 : Int32)) = (0 : Int32)
    ·
      refine own_ifYes Y1 hx (pc' := 48) (hb hby at_41) ((if0 _ _).trans (teq qF149).1) (by decide) (by decide) ?_
      refine own_iloadN Y1 hx (pc' := 49) (hb hby at_48) rfl rfl ?_
      have F151 := (own_St S_high K1 own_all0)
      have F152 := (own_St S_cache K1 own_all0)
      have F153 := (own_CacheK H_cache K1)
      refine own_static Y1 hx (pc' := 52) (W := 0) (cl' := 2) (sl' := 2) (as' := [(.int p1)]) (S' := []) hZ hown (own_w hw 1 rfl) (own_w hw 2 rfl) (own_w hw 3 rfl) (own_w hw 4 rfl) (by decide) (rm1_15 l Z a0 hw [] p1 w_cache h1 n0 (own_sz Y1) F151 F152 F153) (hb hby at_49) rfl (by rw [hml]; rfl) rfl (lenOf pd__I_Ljava_lang_Integer_ rfl) rfl (by decide) (by decide) rfl rfl (by decide) (by decide) own_PV_sz (fun T150 h150 v150 Y150 R150 => ?_)
      obtain ⟨b150_0, rfl, K150, E150, F150⟩ := R150
      show own_Fin p e below _ (T150.setTop (mkF m 52 #[.val (.int p0), .val (.int p1), .val (.int p2), .val (.int p3), .val (.int p4), .val (.int p5), .val (.int (3 : Int32)), .val (.int (2 : Int32)), .val k0, .unset, .unset, .unset, .unset, .unset, .unset, .unset, .unset, .unset, .unset, .unset, .unset] [(.ref b150_0)]))
      exact J52 _ _ _ Y150 K150 (Or.inr ⟨b150_0, _, rfl, E150, F150⟩)
    ·
      refine own_ifNo Y1 hx (pc' := 44) (hb hby at_41) rfl ((if0 _ _).trans (feq qF149).1) ?_
      refine own_aconstNull Y1 hx (pc' := 45) (hb hby at_44) rfl ?_
      refine own_goto Y1 hx (pc' := 52) (hb hby at_45) (by decide) (by decide) ?_
      exact J52 _ _ .null (own_more Y1 (by decide) (by decide)) (own_Kp.refl _ _) (Or.inl rfl)
  by_cases qF154 : (p5 &&& (1 : Int32)) = (0 : Int32)
  ·
    refine own_ifYes Y0 hx (pc' := 31) (hb hby at_24) ((if0 _ _).trans (teq qF154).1) (by decide) (by decide) ?_
    refine own_iloadN Y0 hx (pc' := 32) (hb hby at_31) rfl rfl ?_
    refine own_static Y0 hx (pc' := 35) (W := 0) (cl' := 1) (sl' := 1) (as' := [(.int p0)]) (S' := []) hZ hown (own_w hw 1 rfl) (own_w hw 2 rfl) (own_w hw 3 rfl) (own_w hw 4 rfl) (by decide) (rm1_15 l Z a0 hw [] p0 w_cache h0 n0 (own_sz Y0) S_high S_cache H_cache) (hb hby at_32) rfl (by rw [hml]; rfl) rfl (lenOf pd__I_Ljava_lang_Integer_ rfl) rfl (by decide) (by decide) rfl rfl (by decide) (by decide) own_PV_sz (fun T155 h155 v155 Y155 R155 => ?_)
    obtain ⟨b155_0, rfl, K155, E155, F155⟩ := R155
    show own_Fin p e below _ (T155.setTop (mkF m 35 #[.val (.int p0), .val (.int p1), .val (.int p2), .val (.int p3), .val (.int p4), .val (.int p5), .val (.int (3 : Int32)), .val (.int (2 : Int32)), .unset, .unset, .unset, .unset, .unset, .unset, .unset, .unset, .unset, .unset, .unset, .unset, .unset] [(.ref b155_0)]))
    exact J35 _ _ _ Y155 K155 (Or.inr ⟨b155_0, _, rfl, E155, F155⟩)
  ·
    refine own_ifNo Y0 hx (pc' := 27) (hb hby at_24) rfl ((if0 _ _).trans (feq qF154).1) ?_
    refine own_aconstNull Y0 hx (pc' := 28) (hb hby at_27) rfl ?_
    refine own_goto Y0 hx (pc' := 35) (hb hby at_28) (by decide) (by decide) ?_
    exact J35 _ _ .null (own_more Y0 (by decide) (by decide)) (own_Kp.refl _ _) (Or.inl rfl)
theorem rm0 (l : Launch) (Z : State) (a0 : Array Value) (hw : ∀ d ∈ tables_1, d.before a0 Z = true) (ws : List Jvm.Cond) (w_NULL_KEY : Addr) (w_cache : Addr) (p0 : Int32) (p1 : Int32) (p2 : Int32) (p3 : Int32) (p4 : Int32) (p5 : Int32) (h0 : Heap) (n0 : Nat) (Z0 : n0 ≤ Array.size h0) (PN : own_Pins Z h0 w_NULL_KEY w_cache) :
    MetFree l x (head1 (Jvm.Cond.code x code maxLocals ret :: ws) room_1) (fun a U => a = #[(.int p0), (.int p1), (.int p2), (.int p3), (.int p4), (.int p5)] ∧ Z.Warmed39 U.vm ∧ U.heap = h0) (fun _ _ _ _ _ => True) (fun _ U o U' => ∃ v L, o = .returned v ∧ own_QQ n0 (own_R (some (.int (1 : Int32))) (fun _ => True)) v U'.heap L ∧ FrameEnd U o U' L room_1.cells room_1.slots) := by
  rcases own_mod3 p3 with q0 | q0 | q0
  · exact rm0_c10 l Z a0 hw ws w_NULL_KEY w_cache p0 p1 p2 p3 p4 p5 h0 n0 Z0 PN q0 (own_mod1 p4)
  · rcases own_mod2 p4 with q1 | q1
    · exact rm0_c20 l Z a0 hw ws w_NULL_KEY w_cache p0 p1 p2 p3 p4 p5 h0 n0 Z0 PN q0 q1
    · exact rm0_c21 l Z a0 hw ws w_NULL_KEY w_cache p0 p1 p2 p3 p4 p5 h0 n0 Z0 PN q0 q1
  · rcases own_mod3 p4 with q1 | q1 | q1
    · exact rm0_c30 l Z a0 hw ws w_NULL_KEY w_cache p0 p1 p2 p3 p4 p5 h0 n0 Z0 PN q0 q1
    · exact rm0_c31 l Z a0 hw ws w_NULL_KEY w_cache p0 p1 p2 p3 p4 p5 h0 n0 Z0 PN q0 q1
    · exact rm0_c32 l Z a0 hw ws w_NULL_KEY w_cache p0 p1 p2 p3 p4 p5 h0 n0 Z0 PN q0 q1
set_option maxRecDepth 65536 in
set_option maxHeartbeats 40000000 in
theorem comes_1 {Post : Tables → Env → Array Value → State → Outcome → State → Prop} (hpost : ∀ tb e args s v u, (limb_1_1.after args s (.returned v) u = true ∧ limb_1_2.after args s (.returned v) u = true ∧ True) → FrameEnd s (.returned v) u (Jvm.fieldLocs frame_1_writes args s ++ Jvm.arrayLocs frame_1_arrays args s ++ Jvm.staticLocs frame_1_statics s) 24 128 → Post tb e args s (.returned v) u) :
    ArmFor flags0 classFile x code maxLocals ret World_1 tables_1 room_1 Calls_1 rest_1 Pre_1 Post := by
  intro l hfl _ _ p e ha hc hk s m args below hf hA hF happ hP
  obtain ⟨hcalls, hrest, hpre⟩ := hP
  obtain ⟨-, -, -, hnamed, -, -, -, hat⟩ := (Spec.applies_iff hf).mp happ
  obtain ⟨hg, hn⟩ := and_e (Cond.before_iff.mp (show (Jvm.Cond.and given_1 narrow_1).before args s = true from hpre))
  obtain ⟨hgl, hgr⟩ := and_e hg
  obtain ⟨hgrl, hgrr⟩ := and_e hgr
  obtain ⟨hgrrl, hgrrr⟩ := and_e hgrr
  obtain ⟨hgrrrl, hgrrrr⟩ := and_e hgrrr
  obtain ⟨hgrrrrl, hgrrrrr⟩ := and_e hgrrrr
  obtain ⟨hgrrrrrl, hgrrrrrr⟩ := and_e hgrrrrr
  obtain ⟨v0, v1, v2, v3, v4, v5, rfl⟩ : ∃ v0 v1 v2 v3 v4 v5 : Value, args = #[v0, v1, v2, v3, v4, v5] := by
    have hs : args.size = 6 := by simpa [Cond.value, given_1] using hgl
    obtain ⟨L⟩ := args
    match L, hs with
    | [v0, v1, v2, v3, v4, v5], _ => exact ⟨v0, v1, v2, v3, v4, v5, rfl⟩
  have hw := fun d (hd : d ∈ tables_1) => atoms_spec (ws := Jvm.Cond.code x code maxLocals ret :: tables_1) hat d (List.mem_cons_of_mem _ hd)
  have hfit : Fit s := fun {y c} hc i hi => by
    obtain ⟨ha, rfl⟩ := Array.getElem?_eq_some_iff.mp hc
    have q := List.all_eq_true.mp ((Array.all_eq_true_iff_forall_mem.mp hF) _ (Array.getElem_mem ha)) i (List.mem_range.mpr hi)
    simpa [Array.getElem?_eq_getElem hi] using q
  obtain ⟨p0, ei0⟩ := is_v hgrl
  obtain rfl : v0 = (.int p0) := Option.some.inj ei0
  obtain ⟨p1, ei1⟩ := is_v hgrrl
  obtain rfl : v1 = (.int p1) := Option.some.inj ei1
  obtain ⟨p2, ei2⟩ := is_v hgrrrl
  obtain rfl : v2 = (.int p2) := Option.some.inj ei2
  obtain ⟨p3, ei3⟩ := is_v hgrrrrl
  obtain rfl : v3 = (.int p3) := Option.some.inj ei3
  obtain ⟨p4, ei4⟩ := is_v hgrrrrrl
  obtain rfl : v4 = (.int p4) := Option.some.inj ei4
  obtain ⟨p5, ei5⟩ := is_v hgrrrrrr
  obtain rfl : v5 = (.int p5) := Option.some.inj ei5
  obtain ⟨w_NULL_KEY, ev_NULL_KEY⟩ := exa_v hn
  have S_NULL_KEY := Sta.start ev_NULL_KEY (Or.inr ⟨(hw _ (List.mem_of_getElem? (i := 13) rfl)), (hw _ (List.mem_of_getElem? (i := 29) rfl))⟩)
  have E_NULL_KEY := Exa.start ev_NULL_KEY hn
  obtain ⟨hsets, hown0⟩ := atoms_of _ (rest_1_c_eq ▸ (show rest_1_c.before _ s = true from hrest))
  have S_high := Sta.start (own_eqI (Cond.before_iff.mp (hsets _ (List.mem_of_getElem? (i := 3) rfl)))) (Or.inl (hsets _ (List.mem_of_getElem? (i := 1) rfl)))
  obtain ⟨w_cache, ev_cache⟩ := arr_v (Cond.before_iff.mp (hsets _ (List.mem_of_getElem? (i := 4) rfl)))
  have S_cache := Sta.start ev_cache (Or.inr ⟨(hw _ (List.mem_of_getElem? (i := 6) rfl)), (hsets _ (List.mem_of_getElem? (i := 2) rfl))⟩)
  have H_cache := own_cache ev_cache (Cond.before_iff.mp (hsets _ (List.mem_of_getElem? (i := 4) rfl))) (Cond.before_iff.mp (hsets _ (List.mem_of_getElem? (i := 6) rfl))) (Cond.before_iff.mp (hsets _ (List.mem_of_getElem? (i := 7) rfl)))
  obtain ⟨n, o, h1, h2, h3, _, L, rfl, ⟨N, rfl, -⟩, hq⟩ := rm0 l s _ hw tables_1 w_NULL_KEY w_cache p0 p1 p2 p3 p4 p5 s.heap s.heap.size (Nat.le_refl _) (by exact ⟨S_NULL_KEY, E_NULL_KEY, S_high, S_cache, H_cache⟩) p e ha hc hk s m _ below hf ((Spec.applies_iff_loose hf).mp happ).1 ⟨rfl, State.Warmed39.refl s, rfl⟩ trivial
  refine ⟨n, _, h1, h2, h3, hpost _ _ _ _ _ _ ⟨Cond.after_iff.mpr rfl, Cond.after_iff.mpr (eq_i res_at (Term.int_eval (1)) rfl), trivial⟩ ⟨hq.1, hq.2.1, (hq.2.2.sift fun y hy => Or.inr (N y hy)).mono (by decide) (by decide)⟩⟩
theorem main_1_1 : Claimed_1_1 := comes_1 fun _ _ _ _ _ _ h hF => ⟨h.1, hF⟩
theorem main_1_2 : Claimed_1_2 := comes_1 fun _ _ _ _ _ _ h hF => ⟨h.2.1, hF⟩
end Jvm.Pilot.@@N@@
namespace Jvm.Pilot.@@N@@
open Jvm Jvm.ClassFile Sem Op Lib Jvm.Free Jvm.Stand Jvm.Pilot.@@N@@.Jvm.D
/-! MADE BY PROGRAM (witnessworld.py) out of the Statement's table words and the real class files: 18 classes; the members and pool entries that the words name. The judged class is class 1, her method 2. -/
namespace start1
open Jvm.ClassFile
def u (s : String) : CpInfo := .utf8 (stringToUtf16 s)
/-- a pool by its gaps: so many unusable entries, then the entry; so many at the end -/
def gap : Nat → List CpInfo → List CpInfo
  | 0, r => r
  | n + 1, r => .unusable :: gap n r
def poolList (es : List (Nat × CpInfo)) (last : Nat) : List CpInfo := es.foldr (fun e r => gap e.1 (e.2 :: r)) (gap last [])
def pool (es : List (Nat × CpInfo)) (last : Nat) : Array CpInfo := ⟨poolList es last⟩
def fileOf (pool : Array CpInfo) (this : Nat) (attrs : Array Attribute := #[]) (ms : Array MethodInfo := #[]) (fl : Nat := 33) (sup : Nat := 0) (ifs : Array Nat := #[]) (fds : Array FieldInfo := #[]) : ClassFile where
  minorVersion := 0
  majorVersion := 65
  constantPool := pool
  accessFlags := fl
  thisClass := this
  superClass := sup
  interfaces := ifs
  fields := fds
  methods := ms
  attributes := attrs
def plain (name : String) (sup : Option ClassId) : Class where
  name := name
  kind := .ordinary
  loader := none
  accessFlags := 33
  super := sup
  interfaces := #[]
  cf := none
  fields := #[]
  methods := #[]
  instanceTypes := #[]
  staticTypes := #[]
  resolved := #[]
  callSites := []
  init := .initialized
  statics := none
  mirror := none

def pool0 : Array CpInfo := pool [(5, u "<init>"), (0, u "()V"), (1, .class_ 10), (1, u "java/lang/Object")] 113

def k0c0 : Code := { maxStack := 0, maxLocals := 1, code := object_method_1_code, exceptionTable := #[], attributes := #[] }
def k0m0 : Method := { name := "<init>", desc := "()V", sig := { parameters := [], returnType := none }, accessFlags := 1, code := some k0c0 }
/-- java/lang/Object -/
def k0 : Class := { plain "java/lang/Object" none with
  accessFlags := 33
  interfaces := #[]
  cf := some (fileOf pool0 8 #[] #[{ accessFlags := 1, nameIndex := 5, descriptorIndex := 6, attributes := #[] }] 33 0 #[] #[])
  fields := #[]
  methods := #[k0m0]
  instanceTypes := #[]
  staticTypes := #[]
  resolved := Array.replicate 124 none
  statics := none }

def pool1 : Array CpInfo := pool [(2, .class_ 4), (0, .nameAndType 5 6), (0, u "java/lang/Object"), (0, u "<init>"), (0, u "()V"), (0, .methodref 8 9), (0, .class_ 10), (0, .nameAndType 11 12), (0, u "java/lang/Integer"), (0, u "intValue"), (0, u "()I"), (0, .integer 2147483647), (0, .methodref 8 15), (0, .nameAndType 16 17), (0, u "valueOf"), (0, u "(I)Ljava/lang/Integer;"), (0, .class_ 19), (0, u "com/example/napkintree/napkintree/balancing/MultiwayTree$Node"), (0, .methodref 18 3), (0, .methodref 18 22), (0, .nameAndType 23 24), (0, u "setEntry"), (0, u "(ILjava/lang/Object;Ljava/lang/Object;)V"), (0, .methodref 18 26), (0, .nameAndType 27 28), (0, u "removeEntry"), (0, u "(I)V"), (0, .methodref 18 30), (0, .nameAndType 31 12), (0, u "keyCount"), (0, .methodref 18 33), (0, .nameAndType 34 35), (0, u "key"), (0, u "(I)Ljava/lang/Object;"), (0, .methodref 37 38), (0, .class_ 39), (0, .nameAndType 40 41), (0, u "com/example/napkintree/napkintree/balancing/NodeRemoveEntryPinLaw"), (0, u "same"), (0, u "(Ljava/lang/Integer;Ljava/lang/Integer;)Z"), (0, .methodref 18 43), (0, .nameAndType 44 35), (0, u "value"), (3, u "law"), (0, u "(IIIIII)Z")] 8

def k1m0 : Method := { name := "<init>", desc := "()V", sig := { parameters := [], returnType := none }, accessFlags := 1, code := none }
def k1c1 : Code := { maxStack := 2, maxLocals := 2, code := method_2_code, exceptionTable := #[], attributes := #[] }
def k1m1 : Method := { name := "same", desc := "(Ljava/lang/Integer;Ljava/lang/Integer;)Z", sig := { parameters := [(.object "java/lang/Integer"), (.object "java/lang/Integer")], returnType := some .boolean }, accessFlags := 10, code := some k1c1 }
def k1c2 : Code := { maxStack := 4, maxLocals := 21, code := code, exceptionTable := #[], attributes := #[] }
def k1m2 : Method := { name := "law", desc := "(IIIIII)Z", sig := { parameters := [.int, .int, .int, .int, .int, .int], returnType := some .boolean }, accessFlags := 9, code := some k1c2 }
/-- com/example/napkintree/napkintree/balancing/NodeRemoveEntryPinLaw -/
def k1 : Class := { plain "com/example/napkintree/napkintree/balancing/NodeRemoveEntryPinLaw" (some 0) with
  accessFlags := 49
  interfaces := #[]
  cf := some (fileOf pool1 37 #[] #[{ accessFlags := 1, nameIndex := 5, descriptorIndex := 6, attributes := #[] }, { accessFlags := 10, nameIndex := 40, descriptorIndex := 41, attributes := #[] }, { accessFlags := 9, nameIndex := 48, descriptorIndex := 49, attributes := #[] }] 49 2 #[] #[])
  fields := #[]
  methods := #[k1m0, k1m1, k1m2]
  instanceTypes := #[]
  staticTypes := #[]
  resolved := Array.replicate 58 none
  statics := none }

def pool2 : Array CpInfo := pool [(1, .class_ 2), (0, u "java/io/Serializable"), (0, .class_ 4), (0, u "java/lang/Object")] 2

/-- java/io/Serializable -/
def k2 : Class := { plain "java/io/Serializable" (some 0) with
  accessFlags := 1537
  interfaces := #[]
  cf := some (fileOf pool2 1 #[] #[] 1537 3 #[] #[])
  fields := #[]
  methods := #[]
  instanceTypes := #[]
  staticTypes := #[]
  resolved := Array.replicate 7 none
  statics := none }

def pool3 : Array CpInfo := pool [(1, .methodref 2 3), (0, .class_ 4), (0, .nameAndType 5 6), (0, u "java/lang/Object"), (0, u "<init>"), (0, u "()V"), (1, .class_ 10), (1, u "java/lang/Number"), (2, .class_ 14), (0, u "java/io/Serializable"), (0, u "serialVersionUID"), (0, u "J")] 20

def k3c0 : Code := { maxStack := 1, maxLocals := 1, code := jdk_18_method_1_code, exceptionTable := #[], attributes := #[] }
def k3m0 : Method := { name := "<init>", desc := "()V", sig := { parameters := [], returnType := none }, accessFlags := 1, code := some k3c0 }
/-- java/lang/Number -/
def k3 : Class := { plain "java/lang/Number" (some 0) with
  accessFlags := 1057
  interfaces := #[2]
  cf := some (fileOf pool3 8 #[] #[{ accessFlags := 1, nameIndex := 5, descriptorIndex := 6, attributes := #[] }] 1057 2 #[13] #[{ accessFlags := 26, nameIndex := 15, descriptorIndex := 16, attributes := #[] }])
  fields := #[{ name := "serialVersionUID", type := .long, accessFlags := 26, slot := 0, constantValue := 0 }]
  methods := #[k3m0]
  instanceTypes := #[]
  staticTypes := #[.long]
  resolved := Array.replicate 37 none
  statics := none }

def pool4 : Array CpInfo := pool [(1, .class_ 2), (0, u "java/lang/Comparable"), (0, .class_ 4), (0, u "java/lang/Object")] 7

/-- java/lang/Comparable -/
def k4 : Class := { plain "java/lang/Comparable" (some 0) with
  accessFlags := 1537
  interfaces := #[]
  cf := some (fileOf pool4 1 #[] #[] 1537 3 #[] #[])
  fields := #[]
  methods := #[]
  instanceTypes := #[]
  staticTypes := #[]
  resolved := Array.replicate 12 none
  statics := none }

def pool5 : Array CpInfo := pool [(1, .class_ 2), (0, u "java/lang/constant/Constable"), (0, .class_ 4), (0, u "java/lang/Object")] 6

/-- java/lang/constant/Constable -/
def k5 : Class := { plain "java/lang/constant/Constable" (some 0) with
  accessFlags := 1537
  interfaces := #[]
  cf := some (fileOf pool5 1 #[] #[] 1537 3 #[] #[])
  fields := #[]
  methods := #[]
  instanceTypes := #[]
  staticTypes := #[]
  resolved := Array.replicate 11 none
  statics := none }

def pool6 : Array CpInfo := pool [(1, .class_ 2), (0, u "java/lang/constant/ConstantDesc"), (0, .class_ 4), (0, u "java/lang/Object")] 32

/-- java/lang/constant/ConstantDesc -/
def k6 : Class := { plain "java/lang/constant/ConstantDesc" (some 0) with
  accessFlags := 1537
  interfaces := #[]
  cf := some (fileOf pool6 1 #[] #[] 1537 3 #[] #[])
  fields := #[]
  methods := #[]
  instanceTypes := #[]
  staticTypes := #[]
  resolved := Array.replicate 37 none
  statics := none }

def pool7 : Array CpInfo := pool [(1, .class_ 2), (0, u "java/lang/Integer"), (16, u "digits"), (0, u "[C"), (46, u "<init>"), (17, u "DigitOnes"), (0, u "[B"), (2, u "DigitTens"), (10, .nameAndType 67 101), (0, u "()V"), (19, u "()I"), (65, u "valueOf"), (0, u "(I)Ljava/lang/Integer;"), (0, .class_ 190), (0, u "java/lang/Integer$IntegerCache"), (0, .fieldref 189 192), (0, .nameAndType 193 194), (0, u "high"), (0, u "I"), (0, .fieldref 189 196), (0, .nameAndType 197 198), (0, u "cache"), (0, u "[Ljava/lang/Integer;"), (0, .methodref 1 200), (0, .nameAndType 67 201), (0, u "(I)V"), (0, .methodref 203 100), (0, .class_ 204), (0, u "java/lang/Number"), (0, .fieldref 1 206), (0, .nameAndType 207 194), (0, u "value"), (5, u "intValue"), (88, u "TYPE"), (0, u "Ljava/lang/Class;"), (0, .class_ 305), (0, u "java/lang/Comparable"), (0, .class_ 307), (0, u "java/lang/constant/Constable"), (0, .class_ 309), (0, u "java/lang/constant/ConstantDesc"), (0, u "MIN_VALUE"), (1, u "MAX_VALUE"), (3, u "SIZE"), (1, u "BYTES"), (1, u "serialVersionUID"), (0, u "J")] 131

def k7c0 : Code := { maxStack := 3, maxLocals := 1, code := jdk_33_method_22_code, exceptionTable := #[], attributes := #[] }
def k7m0 : Method := { name := "valueOf", desc := "(I)Ljava/lang/Integer;", sig := { parameters := [.int], returnType := some (.object "java/lang/Integer") }, accessFlags := 9, code := some k7c0 }
def k7c1 : Code := { maxStack := 2, maxLocals := 2, code := jdk_33_method_23_code, exceptionTable := #[], attributes := #[] }
def k7m1 : Method := { name := "<init>", desc := "(I)V", sig := { parameters := [.int], returnType := none }, accessFlags := 1, code := some k7c1 }
def k7c2 : Code := { maxStack := 1, maxLocals := 1, code := jdk_33_method_27_code, exceptionTable := #[], attributes := #[] }
def k7m2 : Method := { name := "intValue", desc := "()I", sig := { parameters := [], returnType := some .int }, accessFlags := 1, code := some k7c2 }
/-- java/lang/Integer -/
def k7 : Class := { plain "java/lang/Integer" (some 3) with
  accessFlags := 49
  interfaces := #[4, 5, 6]
  cf := some (fileOf pool7 1 #[.nestMembers #[189]] #[{ accessFlags := 9, nameIndex := 187, descriptorIndex := 188, attributes := #[] }, { accessFlags := 1, nameIndex := 67, descriptorIndex := 201, attributes := #[] }, { accessFlags := 1, nameIndex := 213, descriptorIndex := 121, attributes := #[] }] 49 203 #[304, 306, 308] #[{ accessFlags := 25, nameIndex := 310, descriptorIndex := 194, attributes := #[] }, { accessFlags := 25, nameIndex := 312, descriptorIndex := 194, attributes := #[] }, { accessFlags := 25, nameIndex := 302, descriptorIndex := 303, attributes := #[] }, { accessFlags := 24, nameIndex := 19, descriptorIndex := 20, attributes := #[] }, { accessFlags := 24, nameIndex := 89, descriptorIndex := 86, attributes := #[] }, { accessFlags := 24, nameIndex := 85, descriptorIndex := 86, attributes := #[] }, { accessFlags := 18, nameIndex := 207, descriptorIndex := 194, attributes := #[] }, { accessFlags := 25, nameIndex := 316, descriptorIndex := 194, attributes := #[] }, { accessFlags := 25, nameIndex := 318, descriptorIndex := 194, attributes := #[] }, { accessFlags := 26, nameIndex := 320, descriptorIndex := 321, attributes := #[] }])
  fields := #[{ name := "MIN_VALUE", type := .int, accessFlags := 25, slot := 0, constantValue := 0 }, { name := "MAX_VALUE", type := .int, accessFlags := 25, slot := 1, constantValue := 0 }, { name := "TYPE", type := (.object "java/lang/Class"), accessFlags := 25, slot := 2, constantValue := 0 }, { name := "digits", type := (.array .char), accessFlags := 24, slot := 3, constantValue := 0 }, { name := "DigitTens", type := (.array .byte), accessFlags := 24, slot := 4, constantValue := 0 }, { name := "DigitOnes", type := (.array .byte), accessFlags := 24, slot := 5, constantValue := 0 }, { name := "value", type := .int, accessFlags := 18, slot := 0, constantValue := 0 }, { name := "SIZE", type := .int, accessFlags := 25, slot := 6, constantValue := 0 }, { name := "BYTES", type := .int, accessFlags := 25, slot := 7, constantValue := 0 }, { name := "serialVersionUID", type := .long, accessFlags := 26, slot := 8, constantValue := 0 }]
  methods := #[k7m0, k7m1, k7m2]
  instanceTypes := #[.int]
  staticTypes := #[.int, .int, (.object "java/lang/Class"), (.array .char), (.array .byte), (.array .byte), .int, .int, .long]
  resolved := Array.replicate 453 none
  statics := none }

def pool8 : Array CpInfo := pool [(2, .class_ 4), (1, u "java/lang/Object"), (0, u "<init>"), (0, u "()V"), (0, .class_ 8), (0, u "java/lang/Integer"), (7, .class_ 18), (1, u "java/lang/Integer$IntegerCache"), (0, u "$assertionsDisabled"), (0, u "Z"), (26, u "high"), (0, u "I"), (8, u "archivedCache"), (0, u "[Ljava/lang/Integer;"), (12, u "cache"), (0, u "low")] 27

def k8m0 : Method := { name := "<init>", desc := "()V", sig := { parameters := [], returnType := none }, accessFlags := 2, code := none }
/-- java/lang/Integer$IntegerCache -/
def k8 : Class := { plain "java/lang/Integer$IntegerCache" (some 0) with
  accessFlags := 48
  interfaces := #[]
  cf := some (fileOf pool8 16 #[.nestHost 7] #[{ accessFlags := 2, nameIndex := 5, descriptorIndex := 6, attributes := #[] }] 48 2 #[] #[{ accessFlags := 24, nameIndex := 72, descriptorIndex := 48, attributes := #[] }, { accessFlags := 24, nameIndex := 47, descriptorIndex := 48, attributes := #[] }, { accessFlags := 24, nameIndex := 71, descriptorIndex := 58, attributes := #[] }, { accessFlags := 8, nameIndex := 57, descriptorIndex := 58, attributes := #[] }, { accessFlags := 4120, nameIndex := 19, descriptorIndex := 20, attributes := #[] }])
  fields := #[{ name := "low", type := .int, accessFlags := 24, slot := 0, constantValue := 0 }, { name := "high", type := .int, accessFlags := 24, slot := 1, constantValue := 0 }, { name := "cache", type := (.array (.object "java/lang/Integer")), accessFlags := 24, slot := 2, constantValue := 0 }, { name := "archivedCache", type := (.array (.object "java/lang/Integer")), accessFlags := 8, slot := 3, constantValue := 0 }, { name := "$assertionsDisabled", type := .boolean, accessFlags := 4120, slot := 4, constantValue := 0 }]
  methods := #[k8m0]
  instanceTypes := #[]
  staticTypes := #[.int, .int, (.array (.object "java/lang/Integer")), (.array (.object "java/lang/Integer")), .boolean]
  resolved := Array.replicate 100 none
  statics := some 0 }

def pool9 : Array CpInfo := pool [(1, .class_ 2), (0, u "com/example/napkintree/napkintree/balancing/NodeView"), (0, .class_ 4), (0, u "java/lang/Object")] 14

/-- com/example/napkintree/napkintree/balancing/NodeView -/
def k9 : Class := { plain "com/example/napkintree/napkintree/balancing/NodeView" (some 0) with
  accessFlags := 1537
  interfaces := #[]
  cf := some (fileOf pool9 1 #[] #[] 1537 3 #[] #[])
  fields := #[]
  methods := #[]
  instanceTypes := #[]
  staticTypes := #[]
  resolved := Array.replicate 19 none
  statics := none }

def pool10 : Array CpInfo := pool [(1, .class_ 2), (0, u "com/example/napkintree/napkintree/balancing/KeyedNode"), (0, .class_ 4), (0, u "java/lang/Object")] 23

/-- com/example/napkintree/napkintree/balancing/KeyedNode -/
def k10 : Class := { plain "com/example/napkintree/napkintree/balancing/KeyedNode" (some 0) with
  accessFlags := 1537
  interfaces := #[]
  cf := some (fileOf pool10 1 #[] #[] 1537 3 #[] #[])
  fields := #[]
  methods := #[]
  instanceTypes := #[]
  staticTypes := #[]
  resolved := Array.replicate 28 none
  statics := none }

def pool11 : Array CpInfo := pool [(1, .methodref 2 3), (0, .class_ 4), (0, .nameAndType 5 6), (0, u "java/lang/Object"), (0, u "<init>"), (0, u "()V"), (1, .class_ 10), (1, u "com/example/napkintree/napkintree/balancing/MultiwayTree$Node"), (1, u "(ILjava/lang/Object;Ljava/lang/Object;)V"), (10, u "removeEntry"), (0, u "(I)V"), (3, .methodref 8 29), (0, .nameAndType 30 31), (0, u "slotFor"), (0, u "(Ljava/lang/Object;)Ljava/lang/Object;"), (0, .fieldref 8 33), (0, .nameAndType 34 35), (0, u "key2"), (0, u "Ljava/lang/Object;"), (0, .fieldref 8 37), (0, .nameAndType 38 35), (0, u "value2"), (0, .fieldref 8 40), (0, .nameAndType 41 35), (0, u "key1"), (0, .fieldref 8 43), (0, .nameAndType 44 35), (0, u "value1"), (0, .fieldref 8 46), (0, .nameAndType 47 35), (0, u "key0"), (0, .fieldref 8 49), (0, .nameAndType 50 35), (0, u "value0"), (2, u "child3"), (0, u "Lcom/example/napkintree/napkintree/balancing/MultiwayTree$Node;"), (2, u "child2"), (2, u "child1"), (2, u "child0"), (7, .methodref 8 72), (0, .nameAndType 73 31), (0, u "keyIn"), (8, u "NEVER_STORED"), (11, .fieldref 8 95), (0, .nameAndType 96 35), (0, u "NULL_KEY"), (7, .class_ 105), (0, u "com/example/napkintree/napkintree/balancing/NodeView"), (0, .class_ 107), (0, u "com/example/napkintree/napkintree/balancing/KeyedNode"), (0, u "mark"), (0, u "I"), (12, u "setEntry"), (12, u "keyCount"), (0, u "()I"), (0, u "key"), (0, u "(I)Ljava/lang/Object;"), (2, u "value"), (10, .class_ 153), (0, u "com/example/napkintree/napkintree/balancing/MultiwayTree")] 2

def k11c0 : Code := { maxStack := 1, maxLocals := 1, code := prog_25_method_1_code, exceptionTable := #[], attributes := #[] }
def k11m0 : Method := { name := "<init>", desc := "()V", sig := { parameters := [], returnType := none }, accessFlags := 4, code := some k11c0 }
def k11c1 : Code := { maxStack := 2, maxLocals := 2, code := prog_25_method_5_code, exceptionTable := #[], attributes := #[] }
def k11m1 : Method := { name := "removeEntry", desc := "(I)V", sig := { parameters := [.int], returnType := none }, accessFlags := 0, code := some k11c1 }
def k11c2 : Code := { maxStack := 3, maxLocals := 5, code := prog_25_method_8_code, exceptionTable := #[], attributes := #[] }
def k11m2 : Method := { name := "setEntry", desc := "(ILjava/lang/Object;Ljava/lang/Object;)V", sig := { parameters := [.int, (.object "java/lang/Object"), (.object "java/lang/Object")], returnType := none }, accessFlags := 1, code := some k11c2 }
def k11c3 : Code := { maxStack := 1, maxLocals := 1, code := prog_25_method_16_code, exceptionTable := #[], attributes := #[] }
def k11m3 : Method := { name := "keyCount", desc := "()I", sig := { parameters := [], returnType := some .int }, accessFlags := 1, code := some k11c3 }
def k11c4 : Code := { maxStack := 3, maxLocals := 3, code := prog_25_method_17_code, exceptionTable := #[], attributes := #[] }
def k11m4 : Method := { name := "key", desc := "(I)Ljava/lang/Object;", sig := { parameters := [.int], returnType := some (.object "java/lang/Object") }, accessFlags := 1, code := some k11c4 }
def k11c5 : Code := { maxStack := 1, maxLocals := 1, code := prog_25_method_18_code, exceptionTable := #[], attributes := #[] }
def k11m5 : Method := { name := "slotFor", desc := "(Ljava/lang/Object;)Ljava/lang/Object;", sig := { parameters := [(.object "java/lang/Object")], returnType := some (.object "java/lang/Object") }, accessFlags := 10, code := some k11c5 }
def k11c6 : Code := { maxStack := 2, maxLocals := 1, code := prog_25_method_19_code, exceptionTable := #[], attributes := #[] }
def k11m6 : Method := { name := "keyIn", desc := "(Ljava/lang/Object;)Ljava/lang/Object;", sig := { parameters := [(.object "java/lang/Object")], returnType := some (.object "java/lang/Object") }, accessFlags := 10, code := some k11c6 }
def k11c7 : Code := { maxStack := 3, maxLocals := 3, code := prog_25_method_20_code, exceptionTable := #[], attributes := #[] }
def k11m7 : Method := { name := "value", desc := "(I)Ljava/lang/Object;", sig := { parameters := [.int], returnType := some (.object "java/lang/Object") }, accessFlags := 1, code := some k11c7 }
/-- com/example/napkintree/napkintree/balancing/MultiwayTree$Node -/
def k11 : Class := { plain "com/example/napkintree/napkintree/balancing/MultiwayTree$Node" (some 0) with
  accessFlags := 49
  interfaces := #[9, 10]
  cf := some (fileOf pool11 8 #[.nestHost 152] #[{ accessFlags := 4, nameIndex := 5, descriptorIndex := 6, attributes := #[] }, { accessFlags := 0, nameIndex := 23, descriptorIndex := 24, attributes := #[] }, { accessFlags := 1, nameIndex := 122, descriptorIndex := 12, attributes := #[] }, { accessFlags := 1, nameIndex := 135, descriptorIndex := 136, attributes := #[] }, { accessFlags := 1, nameIndex := 137, descriptorIndex := 138, attributes := #[] }, { accessFlags := 10, nameIndex := 30, descriptorIndex := 31, attributes := #[] }, { accessFlags := 10, nameIndex := 73, descriptorIndex := 31, attributes := #[] }, { accessFlags := 1, nameIndex := 141, descriptorIndex := 138, attributes := #[] }] 49 2 #[104, 106] #[{ accessFlags := 26, nameIndex := 96, descriptorIndex := 35, attributes := #[] }, { accessFlags := 26, nameIndex := 82, descriptorIndex := 35, attributes := #[] }, { accessFlags := 2, nameIndex := 108, descriptorIndex := 109, attributes := #[] }, { accessFlags := 2, nameIndex := 47, descriptorIndex := 35, attributes := #[] }, { accessFlags := 2, nameIndex := 41, descriptorIndex := 35, attributes := #[] }, { accessFlags := 2, nameIndex := 34, descriptorIndex := 35, attributes := #[] }, { accessFlags := 2, nameIndex := 63, descriptorIndex := 54, attributes := #[] }, { accessFlags := 2, nameIndex := 60, descriptorIndex := 54, attributes := #[] }, { accessFlags := 2, nameIndex := 57, descriptorIndex := 54, attributes := #[] }, { accessFlags := 2, nameIndex := 53, descriptorIndex := 54, attributes := #[] }, { accessFlags := 2, nameIndex := 50, descriptorIndex := 35, attributes := #[] }, { accessFlags := 2, nameIndex := 44, descriptorIndex := 35, attributes := #[] }, { accessFlags := 2, nameIndex := 38, descriptorIndex := 35, attributes := #[] }])
  fields := #[{ name := "NULL_KEY", type := (.object "java/lang/Object"), accessFlags := 26, slot := 0, constantValue := 0 }, { name := "NEVER_STORED", type := (.object "java/lang/Object"), accessFlags := 26, slot := 1, constantValue := 0 }, { name := "mark", type := .int, accessFlags := 2, slot := 0, constantValue := 0 }, { name := "key0", type := (.object "java/lang/Object"), accessFlags := 2, slot := 1, constantValue := 0 }, { name := "key1", type := (.object "java/lang/Object"), accessFlags := 2, slot := 2, constantValue := 0 }, { name := "key2", type := (.object "java/lang/Object"), accessFlags := 2, slot := 3, constantValue := 0 }, { name := "child0", type := (.object "com/example/napkintree/napkintree/balancing/MultiwayTree$Node"), accessFlags := 2, slot := 4, constantValue := 0 }, { name := "child1", type := (.object "com/example/napkintree/napkintree/balancing/MultiwayTree$Node"), accessFlags := 2, slot := 5, constantValue := 0 }, { name := "child2", type := (.object "com/example/napkintree/napkintree/balancing/MultiwayTree$Node"), accessFlags := 2, slot := 6, constantValue := 0 }, { name := "child3", type := (.object "com/example/napkintree/napkintree/balancing/MultiwayTree$Node"), accessFlags := 2, slot := 7, constantValue := 0 }, { name := "value0", type := (.object "java/lang/Object"), accessFlags := 2, slot := 8, constantValue := 0 }, { name := "value1", type := (.object "java/lang/Object"), accessFlags := 2, slot := 9, constantValue := 0 }, { name := "value2", type := (.object "java/lang/Object"), accessFlags := 2, slot := 10, constantValue := 0 }]
  methods := #[k11m0, k11m1, k11m2, k11m3, k11m4, k11m5, k11m6, k11m7]
  instanceTypes := #[.int, (.object "java/lang/Object"), (.object "java/lang/Object"), (.object "java/lang/Object"), (.object "com/example/napkintree/napkintree/balancing/MultiwayTree$Node"), (.object "com/example/napkintree/napkintree/balancing/MultiwayTree$Node"), (.object "com/example/napkintree/napkintree/balancing/MultiwayTree$Node"), (.object "com/example/napkintree/napkintree/balancing/MultiwayTree$Node"), (.object "java/lang/Object"), (.object "java/lang/Object"), (.object "java/lang/Object")]
  staticTypes := #[(.object "java/lang/Object"), (.object "java/lang/Object")]
  resolved := Array.replicate 156 none
  statics := some 1 }

def pool12 : Array CpInfo := pool [(1, u "java/lang/Cloneable"), (0, .class_ 1), (0, u "java/lang/Object"), (0, .class_ 3)] 3

/-- java/lang/Cloneable -/
def k12 : Class := { plain "java/lang/Cloneable" (some 0) with
  accessFlags := 1537
  interfaces := #[]
  cf := some (fileOf pool12 2 #[] #[] 1537 4 #[] #[])
  fields := #[]
  methods := #[]
  instanceTypes := #[]
  staticTypes := #[]
  resolved := Array.replicate 8 none
  statics := none }

/-- the primitive byte -/
def k13 : Class := { plain "byte" none with kind := .primitive 'B', accessFlags := 0x411 }
/-- [B -/
def k14 : Class := { plain "[B" (some 0) with kind := .array 13 .byte, interfaces := #[12, 2], accessFlags := 1041 }

/-- the primitive int -/
def k15 : Class := { plain "int" none with kind := .primitive 'I', accessFlags := 0x411 }
/-- [I -/
def k16 : Class := { plain "[I" (some 0) with kind := .array 15 .int, interfaces := #[12, 2], accessFlags := 1041 }

/-- [Ljava/lang/Integer; -/
def k17 : Class := { plain "[Ljava/lang/Integer;" (some 0) with kind := .array 7 (.object "java/lang/Integer"), interfaces := #[12, 2], accessFlags := 1041 }

def heap : Heap := #[{ cls := 8, slots := #[.int 0, .int 127, .ref 3, .null, .int 0], vm := .statics 8 },
  { cls := 11, slots := #[.ref 2, .null], vm := .statics 11 },
  { cls := 0, slots := #[], vm := .none },
  { cls := 17, slots := #[.ref 4, .ref 5, .ref 6, .ref 7, .ref 8, .ref 9, .ref 10, .ref 11, .ref 12, .ref 13, .ref 14, .ref 15, .ref 16, .ref 17, .ref 18, .ref 19, .ref 20, .ref 21, .ref 22, .ref 23, .ref 24, .ref 25, .ref 26, .ref 27, .ref 28, .ref 29, .ref 30, .ref 31, .ref 32, .ref 33, .ref 34, .ref 35, .ref 36, .ref 37, .ref 38, .ref 39, .ref 40, .ref 41, .ref 42, .ref 43, .ref 44, .ref 45, .ref 46, .ref 47, .ref 48, .ref 49, .ref 50, .ref 51, .ref 52, .ref 53, .ref 54, .ref 55, .ref 56, .ref 57, .ref 58, .ref 59, .ref 60, .ref 61, .ref 62, .ref 63, .ref 64, .ref 65, .ref 66, .ref 67, .ref 68, .ref 69, .ref 70, .ref 71, .ref 72, .ref 73, .ref 74, .ref 75, .ref 76, .ref 77, .ref 78, .ref 79, .ref 80, .ref 81, .ref 82, .ref 83, .ref 84, .ref 85, .ref 86, .ref 87, .ref 88, .ref 89, .ref 90, .ref 91, .ref 92, .ref 93, .ref 94, .ref 95, .ref 96, .ref 97, .ref 98, .ref 99, .ref 100, .ref 101, .ref 102, .ref 103, .ref 104, .ref 105, .ref 106, .ref 107, .ref 108, .ref 109, .ref 110, .ref 111, .ref 112, .ref 113, .ref 114, .ref 115, .ref 116, .ref 117, .ref 118, .ref 119, .ref 120, .ref 121, .ref 122, .ref 123, .ref 124, .ref 125, .ref 126, .ref 127, .ref 128, .ref 129, .ref 130, .ref 131, .ref 132, .ref 133, .ref 134, .ref 135, .ref 136, .ref 137, .ref 138, .ref 139, .ref 140, .ref 141, .ref 142, .ref 143, .ref 144, .ref 145, .ref 146, .ref 147, .ref 148, .ref 149, .ref 150, .ref 151, .ref 152, .ref 153, .ref 154, .ref 155, .ref 156, .ref 157, .ref 158, .ref 159, .ref 160, .ref 161, .ref 162, .ref 163, .ref 164, .ref 165, .ref 166, .ref 167, .ref 168, .ref 169, .ref 170, .ref 171, .ref 172, .ref 173, .ref 174, .ref 175, .ref 176, .ref 177, .ref 178, .ref 179, .ref 180, .ref 181, .ref 182, .ref 183, .ref 184, .ref 185, .ref 186, .ref 187, .ref 188, .ref 189, .ref 190, .ref 191, .ref 192, .ref 193, .ref 194, .ref 195, .ref 196, .ref 197, .ref 198, .ref 199, .ref 200, .ref 201, .ref 202, .ref 203, .ref 204, .ref 205, .ref 206, .ref 207, .ref 208, .ref 209, .ref 210, .ref 211, .ref 212, .ref 213, .ref 214, .ref 215, .ref 216, .ref 217, .ref 218, .ref 219, .ref 220, .ref 221, .ref 222, .ref 223, .ref 224, .ref 225, .ref 226, .ref 227, .ref 228, .ref 229, .ref 230, .ref 231, .ref 232, .ref 233, .ref 234, .ref 235, .ref 236, .ref 237, .ref 238, .ref 239, .ref 240, .ref 241, .ref 242, .ref 243, .ref 244, .ref 245, .ref 246, .ref 247, .ref 248, .ref 249, .ref 250, .ref 251, .ref 252, .ref 253, .ref 254, .ref 255, .ref 256, .ref 257, .ref 258, .ref 259], vm := .none },
  { cls := 7, slots := #[.int (-128)], vm := .none },
  { cls := 7, slots := #[.int (-127)], vm := .none },
  { cls := 7, slots := #[.int (-126)], vm := .none },
  { cls := 7, slots := #[.int (-125)], vm := .none },
  { cls := 7, slots := #[.int (-124)], vm := .none },
  { cls := 7, slots := #[.int (-123)], vm := .none },
  { cls := 7, slots := #[.int (-122)], vm := .none },
  { cls := 7, slots := #[.int (-121)], vm := .none },
  { cls := 7, slots := #[.int (-120)], vm := .none },
  { cls := 7, slots := #[.int (-119)], vm := .none },
  { cls := 7, slots := #[.int (-118)], vm := .none },
  { cls := 7, slots := #[.int (-117)], vm := .none },
  { cls := 7, slots := #[.int (-116)], vm := .none },
  { cls := 7, slots := #[.int (-115)], vm := .none },
  { cls := 7, slots := #[.int (-114)], vm := .none },
  { cls := 7, slots := #[.int (-113)], vm := .none },
  { cls := 7, slots := #[.int (-112)], vm := .none },
  { cls := 7, slots := #[.int (-111)], vm := .none },
  { cls := 7, slots := #[.int (-110)], vm := .none },
  { cls := 7, slots := #[.int (-109)], vm := .none },
  { cls := 7, slots := #[.int (-108)], vm := .none },
  { cls := 7, slots := #[.int (-107)], vm := .none },
  { cls := 7, slots := #[.int (-106)], vm := .none },
  { cls := 7, slots := #[.int (-105)], vm := .none },
  { cls := 7, slots := #[.int (-104)], vm := .none },
  { cls := 7, slots := #[.int (-103)], vm := .none },
  { cls := 7, slots := #[.int (-102)], vm := .none },
  { cls := 7, slots := #[.int (-101)], vm := .none },
  { cls := 7, slots := #[.int (-100)], vm := .none },
  { cls := 7, slots := #[.int (-99)], vm := .none },
  { cls := 7, slots := #[.int (-98)], vm := .none },
  { cls := 7, slots := #[.int (-97)], vm := .none },
  { cls := 7, slots := #[.int (-96)], vm := .none },
  { cls := 7, slots := #[.int (-95)], vm := .none },
  { cls := 7, slots := #[.int (-94)], vm := .none },
  { cls := 7, slots := #[.int (-93)], vm := .none },
  { cls := 7, slots := #[.int (-92)], vm := .none },
  { cls := 7, slots := #[.int (-91)], vm := .none },
  { cls := 7, slots := #[.int (-90)], vm := .none },
  { cls := 7, slots := #[.int (-89)], vm := .none },
  { cls := 7, slots := #[.int (-88)], vm := .none },
  { cls := 7, slots := #[.int (-87)], vm := .none },
  { cls := 7, slots := #[.int (-86)], vm := .none },
  { cls := 7, slots := #[.int (-85)], vm := .none },
  { cls := 7, slots := #[.int (-84)], vm := .none },
  { cls := 7, slots := #[.int (-83)], vm := .none },
  { cls := 7, slots := #[.int (-82)], vm := .none },
  { cls := 7, slots := #[.int (-81)], vm := .none },
  { cls := 7, slots := #[.int (-80)], vm := .none },
  { cls := 7, slots := #[.int (-79)], vm := .none },
  { cls := 7, slots := #[.int (-78)], vm := .none },
  { cls := 7, slots := #[.int (-77)], vm := .none },
  { cls := 7, slots := #[.int (-76)], vm := .none },
  { cls := 7, slots := #[.int (-75)], vm := .none },
  { cls := 7, slots := #[.int (-74)], vm := .none },
  { cls := 7, slots := #[.int (-73)], vm := .none },
  { cls := 7, slots := #[.int (-72)], vm := .none },
  { cls := 7, slots := #[.int (-71)], vm := .none },
  { cls := 7, slots := #[.int (-70)], vm := .none },
  { cls := 7, slots := #[.int (-69)], vm := .none },
  { cls := 7, slots := #[.int (-68)], vm := .none },
  { cls := 7, slots := #[.int (-67)], vm := .none },
  { cls := 7, slots := #[.int (-66)], vm := .none },
  { cls := 7, slots := #[.int (-65)], vm := .none },
  { cls := 7, slots := #[.int (-64)], vm := .none },
  { cls := 7, slots := #[.int (-63)], vm := .none },
  { cls := 7, slots := #[.int (-62)], vm := .none },
  { cls := 7, slots := #[.int (-61)], vm := .none },
  { cls := 7, slots := #[.int (-60)], vm := .none },
  { cls := 7, slots := #[.int (-59)], vm := .none },
  { cls := 7, slots := #[.int (-58)], vm := .none },
  { cls := 7, slots := #[.int (-57)], vm := .none },
  { cls := 7, slots := #[.int (-56)], vm := .none },
  { cls := 7, slots := #[.int (-55)], vm := .none },
  { cls := 7, slots := #[.int (-54)], vm := .none },
  { cls := 7, slots := #[.int (-53)], vm := .none },
  { cls := 7, slots := #[.int (-52)], vm := .none },
  { cls := 7, slots := #[.int (-51)], vm := .none },
  { cls := 7, slots := #[.int (-50)], vm := .none },
  { cls := 7, slots := #[.int (-49)], vm := .none },
  { cls := 7, slots := #[.int (-48)], vm := .none },
  { cls := 7, slots := #[.int (-47)], vm := .none },
  { cls := 7, slots := #[.int (-46)], vm := .none },
  { cls := 7, slots := #[.int (-45)], vm := .none },
  { cls := 7, slots := #[.int (-44)], vm := .none },
  { cls := 7, slots := #[.int (-43)], vm := .none },
  { cls := 7, slots := #[.int (-42)], vm := .none },
  { cls := 7, slots := #[.int (-41)], vm := .none },
  { cls := 7, slots := #[.int (-40)], vm := .none },
  { cls := 7, slots := #[.int (-39)], vm := .none },
  { cls := 7, slots := #[.int (-38)], vm := .none },
  { cls := 7, slots := #[.int (-37)], vm := .none },
  { cls := 7, slots := #[.int (-36)], vm := .none },
  { cls := 7, slots := #[.int (-35)], vm := .none },
  { cls := 7, slots := #[.int (-34)], vm := .none },
  { cls := 7, slots := #[.int (-33)], vm := .none },
  { cls := 7, slots := #[.int (-32)], vm := .none },
  { cls := 7, slots := #[.int (-31)], vm := .none },
  { cls := 7, slots := #[.int (-30)], vm := .none },
  { cls := 7, slots := #[.int (-29)], vm := .none },
  { cls := 7, slots := #[.int (-28)], vm := .none },
  { cls := 7, slots := #[.int (-27)], vm := .none },
  { cls := 7, slots := #[.int (-26)], vm := .none },
  { cls := 7, slots := #[.int (-25)], vm := .none },
  { cls := 7, slots := #[.int (-24)], vm := .none },
  { cls := 7, slots := #[.int (-23)], vm := .none },
  { cls := 7, slots := #[.int (-22)], vm := .none },
  { cls := 7, slots := #[.int (-21)], vm := .none },
  { cls := 7, slots := #[.int (-20)], vm := .none },
  { cls := 7, slots := #[.int (-19)], vm := .none },
  { cls := 7, slots := #[.int (-18)], vm := .none },
  { cls := 7, slots := #[.int (-17)], vm := .none },
  { cls := 7, slots := #[.int (-16)], vm := .none },
  { cls := 7, slots := #[.int (-15)], vm := .none },
  { cls := 7, slots := #[.int (-14)], vm := .none },
  { cls := 7, slots := #[.int (-13)], vm := .none },
  { cls := 7, slots := #[.int (-12)], vm := .none },
  { cls := 7, slots := #[.int (-11)], vm := .none },
  { cls := 7, slots := #[.int (-10)], vm := .none },
  { cls := 7, slots := #[.int (-9)], vm := .none },
  { cls := 7, slots := #[.int (-8)], vm := .none },
  { cls := 7, slots := #[.int (-7)], vm := .none },
  { cls := 7, slots := #[.int (-6)], vm := .none },
  { cls := 7, slots := #[.int (-5)], vm := .none },
  { cls := 7, slots := #[.int (-4)], vm := .none },
  { cls := 7, slots := #[.int (-3)], vm := .none },
  { cls := 7, slots := #[.int (-2)], vm := .none },
  { cls := 7, slots := #[.int (-1)], vm := .none },
  { cls := 7, slots := #[.int 0], vm := .none },
  { cls := 7, slots := #[.int 1], vm := .none },
  { cls := 7, slots := #[.int 2], vm := .none },
  { cls := 7, slots := #[.int 3], vm := .none },
  { cls := 7, slots := #[.int 4], vm := .none },
  { cls := 7, slots := #[.int 5], vm := .none },
  { cls := 7, slots := #[.int 6], vm := .none },
  { cls := 7, slots := #[.int 7], vm := .none },
  { cls := 7, slots := #[.int 8], vm := .none },
  { cls := 7, slots := #[.int 9], vm := .none },
  { cls := 7, slots := #[.int 10], vm := .none },
  { cls := 7, slots := #[.int 11], vm := .none },
  { cls := 7, slots := #[.int 12], vm := .none },
  { cls := 7, slots := #[.int 13], vm := .none },
  { cls := 7, slots := #[.int 14], vm := .none },
  { cls := 7, slots := #[.int 15], vm := .none },
  { cls := 7, slots := #[.int 16], vm := .none },
  { cls := 7, slots := #[.int 17], vm := .none },
  { cls := 7, slots := #[.int 18], vm := .none },
  { cls := 7, slots := #[.int 19], vm := .none },
  { cls := 7, slots := #[.int 20], vm := .none },
  { cls := 7, slots := #[.int 21], vm := .none },
  { cls := 7, slots := #[.int 22], vm := .none },
  { cls := 7, slots := #[.int 23], vm := .none },
  { cls := 7, slots := #[.int 24], vm := .none },
  { cls := 7, slots := #[.int 25], vm := .none },
  { cls := 7, slots := #[.int 26], vm := .none },
  { cls := 7, slots := #[.int 27], vm := .none },
  { cls := 7, slots := #[.int 28], vm := .none },
  { cls := 7, slots := #[.int 29], vm := .none },
  { cls := 7, slots := #[.int 30], vm := .none },
  { cls := 7, slots := #[.int 31], vm := .none },
  { cls := 7, slots := #[.int 32], vm := .none },
  { cls := 7, slots := #[.int 33], vm := .none },
  { cls := 7, slots := #[.int 34], vm := .none },
  { cls := 7, slots := #[.int 35], vm := .none },
  { cls := 7, slots := #[.int 36], vm := .none },
  { cls := 7, slots := #[.int 37], vm := .none },
  { cls := 7, slots := #[.int 38], vm := .none },
  { cls := 7, slots := #[.int 39], vm := .none },
  { cls := 7, slots := #[.int 40], vm := .none },
  { cls := 7, slots := #[.int 41], vm := .none },
  { cls := 7, slots := #[.int 42], vm := .none },
  { cls := 7, slots := #[.int 43], vm := .none },
  { cls := 7, slots := #[.int 44], vm := .none },
  { cls := 7, slots := #[.int 45], vm := .none },
  { cls := 7, slots := #[.int 46], vm := .none },
  { cls := 7, slots := #[.int 47], vm := .none },
  { cls := 7, slots := #[.int 48], vm := .none },
  { cls := 7, slots := #[.int 49], vm := .none },
  { cls := 7, slots := #[.int 50], vm := .none },
  { cls := 7, slots := #[.int 51], vm := .none },
  { cls := 7, slots := #[.int 52], vm := .none },
  { cls := 7, slots := #[.int 53], vm := .none },
  { cls := 7, slots := #[.int 54], vm := .none },
  { cls := 7, slots := #[.int 55], vm := .none },
  { cls := 7, slots := #[.int 56], vm := .none },
  { cls := 7, slots := #[.int 57], vm := .none },
  { cls := 7, slots := #[.int 58], vm := .none },
  { cls := 7, slots := #[.int 59], vm := .none },
  { cls := 7, slots := #[.int 60], vm := .none },
  { cls := 7, slots := #[.int 61], vm := .none },
  { cls := 7, slots := #[.int 62], vm := .none },
  { cls := 7, slots := #[.int 63], vm := .none },
  { cls := 7, slots := #[.int 64], vm := .none },
  { cls := 7, slots := #[.int 65], vm := .none },
  { cls := 7, slots := #[.int 66], vm := .none },
  { cls := 7, slots := #[.int 67], vm := .none },
  { cls := 7, slots := #[.int 68], vm := .none },
  { cls := 7, slots := #[.int 69], vm := .none },
  { cls := 7, slots := #[.int 70], vm := .none },
  { cls := 7, slots := #[.int 71], vm := .none },
  { cls := 7, slots := #[.int 72], vm := .none },
  { cls := 7, slots := #[.int 73], vm := .none },
  { cls := 7, slots := #[.int 74], vm := .none },
  { cls := 7, slots := #[.int 75], vm := .none },
  { cls := 7, slots := #[.int 76], vm := .none },
  { cls := 7, slots := #[.int 77], vm := .none },
  { cls := 7, slots := #[.int 78], vm := .none },
  { cls := 7, slots := #[.int 79], vm := .none },
  { cls := 7, slots := #[.int 80], vm := .none },
  { cls := 7, slots := #[.int 81], vm := .none },
  { cls := 7, slots := #[.int 82], vm := .none },
  { cls := 7, slots := #[.int 83], vm := .none },
  { cls := 7, slots := #[.int 84], vm := .none },
  { cls := 7, slots := #[.int 85], vm := .none },
  { cls := 7, slots := #[.int 86], vm := .none },
  { cls := 7, slots := #[.int 87], vm := .none },
  { cls := 7, slots := #[.int 88], vm := .none },
  { cls := 7, slots := #[.int 89], vm := .none },
  { cls := 7, slots := #[.int 90], vm := .none },
  { cls := 7, slots := #[.int 91], vm := .none },
  { cls := 7, slots := #[.int 92], vm := .none },
  { cls := 7, slots := #[.int 93], vm := .none },
  { cls := 7, slots := #[.int 94], vm := .none },
  { cls := 7, slots := #[.int 95], vm := .none },
  { cls := 7, slots := #[.int 96], vm := .none },
  { cls := 7, slots := #[.int 97], vm := .none },
  { cls := 7, slots := #[.int 98], vm := .none },
  { cls := 7, slots := #[.int 99], vm := .none },
  { cls := 7, slots := #[.int 100], vm := .none },
  { cls := 7, slots := #[.int 101], vm := .none },
  { cls := 7, slots := #[.int 102], vm := .none },
  { cls := 7, slots := #[.int 103], vm := .none },
  { cls := 7, slots := #[.int 104], vm := .none },
  { cls := 7, slots := #[.int 105], vm := .none },
  { cls := 7, slots := #[.int 106], vm := .none },
  { cls := 7, slots := #[.int 107], vm := .none },
  { cls := 7, slots := #[.int 108], vm := .none },
  { cls := 7, slots := #[.int 109], vm := .none },
  { cls := 7, slots := #[.int 110], vm := .none },
  { cls := 7, slots := #[.int 111], vm := .none },
  { cls := 7, slots := #[.int 112], vm := .none },
  { cls := 7, slots := #[.int 113], vm := .none },
  { cls := 7, slots := #[.int 114], vm := .none },
  { cls := 7, slots := #[.int 115], vm := .none },
  { cls := 7, slots := #[.int 116], vm := .none },
  { cls := 7, slots := #[.int 117], vm := .none },
  { cls := 7, slots := #[.int 118], vm := .none },
  { cls := 7, slots := #[.int 119], vm := .none },
  { cls := 7, slots := #[.int 120], vm := .none },
  { cls := 7, slots := #[.int 121], vm := .none },
  { cls := 7, slots := #[.int 122], vm := .none },
  { cls := 7, slots := #[.int 123], vm := .none },
  { cls := 7, slots := #[.int 124], vm := .none },
  { cls := 7, slots := #[.int 125], vm := .none },
  { cls := 7, slots := #[.int 126], vm := .none },
  { cls := 7, slots := #[.int 127], vm := .none }]
def classes : Array Class := #[k0, k1, k2, k3, k4, k5, k6, k7, k8, k9, k10, k11, k12, k13, k14, k15, k16, k17]
def interned : List (Array UInt16 × Addr) := []
def slotsUsed : Nat := 519
def theMethod : MethodId := ⟨1, 2⟩
def args0 : Array Value := #[.int 5, .int 7, .int 8, .int 3, .int 2, .int 1]
def aboutOver (below : List Frame) : State where
  vm := { classes := classes, interned := interned.toArray }
  heap := heap
  slotsUsed := slotsUsed
  threads := #[{ frames := .invoking theMethod args0 :: below }]
def below0 : List Frame := [.native { method := ⟨0, 0⟩, args := #[] }]
def about1 : State := aboutOver below0
def p0 : Program := .bare "" "" ""
def e0 : Env := launch0.env 0 0 0
theorem w_frames : about1.frames = Frame.invoking theMethod args0 :: below0 := rfl
set_option maxRecDepth 65536 in
theorem w_args : argsFit about1.vm theMethod args0 = true := by decide +kernel
set_option maxRecDepth 65536 in
theorem w_heap : heapFits about1 = true := by decide +kernel
set_option maxRecDepth 65536 in
theorem w_runnable : about1.curStatus? = some .runnable := by decide +kernel
set_option maxRecDepth 65536 in
theorem w_alone : about1.alone = true := by decide +kernel
set_option maxRecDepth 65536 in
theorem w_named : about1.methodNamed? x = some theMethod := by decide +kernel
set_option maxRecDepth 65536 in
theorem w_hears : about1.hears theMethod below0 = true := by decide +kernel
set_option maxRecDepth 65536 in
theorem w_ripe : about1.ripe theMethod args0 below0 = true := by decide +kernel
theorem w_running : about1.status = .running := rfl
set_option maxRecDepth 65536 in
theorem w_room : about1.hasRoom e0.platform room_1 = true :=
  launch0.hasRoom_least _ room_1 (by decide +kernel) (by decide +kernel) (by decide +kernel) (by decide +kernel) (by decide +kernel) (by decide +kernel)
theorem allAtoms_all (ts : List Jvm.Cond) (a : Array Jvm.Value) (st : Jvm.State) : (allAtoms ts).before a st = ts.all (fun c => c.before a st) := by
  induction ts with
  | nil => rfl
  | cons c t ih =>
    show (Jvm.Cond.and c (allAtoms t)).before a st = _
    rw [Jvm.Cond.before_and, ih, List.all_cons]
def words1 : List Jvm.Cond := Jvm.Cond.code x code maxLocals ret :: tables_1
/-- a 'code' word, met by the world's own term for the bytes: nothing is compared byte by byte -/
theorem code_word {y : MethodName} {bytes : ByteArray} {mx : Nat} {rt : Option FieldType} {a : Array Value} {s : State} {m : MethodId} {meth : Method} {c : Code} (h1 : s.methodNamed? y = some m) (h2 : s.vm.method? m = some meth) (h3 : meth.code = some c) (h4 : c.code = bytes)
    (h5 : (c.maxLocals == mx && c.exceptionTable.isEmpty && decide (c.maxStack ≤ mostOperands) && decide (meth.sig.returnType = rt) && !meth.locks && decide (parseMethodDescriptor y.desc = some meth.sig)) = true) : (Jvm.Cond.code y bytes mx rt).before a s = true := by
  simp only [Bool.and_eq_true, beq_iff_eq, Bool.not_eq_true', decide_eq_true_eq] at h5
  obtain ⟨⟨⟨⟨⟨g1, g2⟩, g3⟩, g4⟩, g5⟩, g6⟩ := h5
  simp [Cond.before, Cond.holds, Cond.value, h1, h2, h3, h4, g1, g2, g3, g4, g5, g6]
def isCode : Jvm.Cond → Bool
  | .code _ _ _ _ => true
  | _ => false
theorem all_split {L : List Jvm.Cond} {P : Jvm.Cond → Bool} (h1 : L.all (fun c => isCode c || P c) = true) (h2 : ∀ c ∈ L.filter isCode, P c = true) : L.all P = true := by
  refine List.all_eq_true.mpr fun c hc => ?_
  have h := List.all_eq_true.mp h1 c hc
  rcases Bool.eq_false_or_eq_true (isCode c) with hi | hi
  · exact h2 c (List.mem_filter.mpr ⟨hc, hi⟩)
  · simpa [hi] using h
set_option maxRecDepth 65536 in
theorem w_c0 : (Jvm.Cond.code x code maxLocals ret).before args0 about1 = true := code_word (m := ⟨1, 2⟩) (meth := k1m2) (c := k1c2) (by decide +kernel) rfl rfl rfl (by decide +kernel)
set_option maxRecDepth 65536 in
theorem w_c1 : (Jvm.Cond.code ({ cls := "java/lang/Integer", name := "valueOf", desc := "(I)Ljava/lang/Integer;" } : Jvm.MethodName) jdk_33_method_22_code (1 : Nat) (Option.some (Jvm.ClassFile.FieldType.object "java/lang/Integer"))).before args0 about1 = true := code_word (m := ⟨7, 0⟩) (meth := k7m0) (c := k7c0) (by decide +kernel) rfl rfl rfl (by decide +kernel)
set_option maxRecDepth 65536 in
theorem w_c2 : (Jvm.Cond.code ({ cls := "com/example/napkintree/napkintree/balancing/MultiwayTree$Node", name := "<init>", desc := "()V" } : Jvm.MethodName) prog_25_method_1_code (1 : Nat) (Option.none : Option Jvm.ClassFile.FieldType)).before args0 about1 = true := code_word (m := ⟨11, 0⟩) (meth := k11m0) (c := k11c0) (by decide +kernel) rfl rfl rfl (by decide +kernel)
set_option maxRecDepth 65536 in
theorem w_c3 : (Jvm.Cond.code ({ cls := "java/lang/Object", name := "<init>", desc := "()V" } : Jvm.MethodName) object_method_1_code (1 : Nat) (Option.none : Option Jvm.ClassFile.FieldType)).before args0 about1 = true := code_word (m := ⟨0, 0⟩) (meth := k0m0) (c := k0c0) (by decide +kernel) rfl rfl rfl (by decide +kernel)
set_option maxRecDepth 65536 in
theorem w_c4 : (Jvm.Cond.code ({ cls := "com/example/napkintree/napkintree/balancing/MultiwayTree$Node", name := "setEntry", desc := "(ILjava/lang/Object;Ljava/lang/Object;)V" } : Jvm.MethodName) prog_25_method_8_code (5 : Nat) (Option.none : Option Jvm.ClassFile.FieldType)).before args0 about1 = true := code_word (m := ⟨11, 2⟩) (meth := k11m2) (c := k11c2) (by decide +kernel) rfl rfl rfl (by decide +kernel)
set_option maxRecDepth 65536 in
theorem w_c5 : (Jvm.Cond.code ({ cls := "com/example/napkintree/napkintree/balancing/MultiwayTree$Node", name := "slotFor", desc := "(Ljava/lang/Object;)Ljava/lang/Object;" } : Jvm.MethodName) prog_25_method_18_code (1 : Nat) (Option.some (Jvm.ClassFile.FieldType.object "java/lang/Object"))).before args0 about1 = true := code_word (m := ⟨11, 5⟩) (meth := k11m5) (c := k11c5) (by decide +kernel) rfl rfl rfl (by decide +kernel)
set_option maxRecDepth 65536 in
theorem w_c6 : (Jvm.Cond.code ({ cls := "com/example/napkintree/napkintree/balancing/MultiwayTree$Node", name := "removeEntry", desc := "(I)V" } : Jvm.MethodName) prog_25_method_5_code (2 : Nat) (Option.none : Option Jvm.ClassFile.FieldType)).before args0 about1 = true := code_word (m := ⟨11, 1⟩) (meth := k11m1) (c := k11c1) (by decide +kernel) rfl rfl rfl (by decide +kernel)
set_option maxRecDepth 65536 in
theorem w_c7 : (Jvm.Cond.code ({ cls := "com/example/napkintree/napkintree/balancing/MultiwayTree$Node", name := "keyCount", desc := "()I" } : Jvm.MethodName) prog_25_method_16_code (1 : Nat) (Option.some Jvm.ClassFile.FieldType.int)).before args0 about1 = true := code_word (m := ⟨11, 3⟩) (meth := k11m3) (c := k11c3) (by decide +kernel) rfl rfl rfl (by decide +kernel)
set_option maxRecDepth 65536 in
theorem w_c8 : (Jvm.Cond.code ({ cls := "com/example/napkintree/napkintree/balancing/MultiwayTree$Node", name := "key", desc := "(I)Ljava/lang/Object;" } : Jvm.MethodName) prog_25_method_17_code (3 : Nat) (Option.some (Jvm.ClassFile.FieldType.object "java/lang/Object"))).before args0 about1 = true := code_word (m := ⟨11, 4⟩) (meth := k11m4) (c := k11c4) (by decide +kernel) rfl rfl rfl (by decide +kernel)
set_option maxRecDepth 65536 in
theorem w_c9 : (Jvm.Cond.code ({ cls := "com/example/napkintree/napkintree/balancing/MultiwayTree$Node", name := "keyIn", desc := "(Ljava/lang/Object;)Ljava/lang/Object;" } : Jvm.MethodName) prog_25_method_19_code (1 : Nat) (Option.some (Jvm.ClassFile.FieldType.object "java/lang/Object"))).before args0 about1 = true := code_word (m := ⟨11, 6⟩) (meth := k11m6) (c := k11c6) (by decide +kernel) rfl rfl rfl (by decide +kernel)
set_option maxRecDepth 65536 in
theorem w_c10 : (Jvm.Cond.code ({ cls := "com/example/napkintree/napkintree/balancing/NodeRemoveEntryPinLaw", name := "same", desc := "(Ljava/lang/Integer;Ljava/lang/Integer;)Z" } : Jvm.MethodName) method_2_code (2 : Nat) (Option.some Jvm.ClassFile.FieldType.boolean)).before args0 about1 = true := code_word (m := ⟨1, 1⟩) (meth := k1m1) (c := k1c1) (by decide +kernel) rfl rfl rfl (by decide +kernel)
set_option maxRecDepth 65536 in
theorem w_c11 : (Jvm.Cond.code ({ cls := "com/example/napkintree/napkintree/balancing/MultiwayTree$Node", name := "value", desc := "(I)Ljava/lang/Object;" } : Jvm.MethodName) prog_25_method_20_code (3 : Nat) (Option.some (Jvm.ClassFile.FieldType.object "java/lang/Object"))).before args0 about1 = true := code_word (m := ⟨11, 7⟩) (meth := k11m7) (c := k11c7) (by decide +kernel) rfl rfl rfl (by decide +kernel)
set_option maxRecDepth 65536 in
theorem w_c12 : (Jvm.Cond.code ({ cls := "java/lang/Integer", name := "intValue", desc := "()I" } : Jvm.MethodName) jdk_33_method_27_code (1 : Nat) (Option.some Jvm.ClassFile.FieldType.int)).before args0 about1 = true := code_word (m := ⟨7, 2⟩) (meth := k7m2) (c := k7c2) (by decide +kernel) rfl rfl rfl (by decide +kernel)
set_option maxRecDepth 65536 in
theorem w_c13 : (Jvm.Cond.code ({ cls := "java/lang/Integer", name := "<init>", desc := "(I)V" } : Jvm.MethodName) jdk_33_method_23_code (2 : Nat) (Option.none : Option Jvm.ClassFile.FieldType)).before args0 about1 = true := code_word (m := ⟨7, 1⟩) (meth := k7m1) (c := k7c1) (by decide +kernel) rfl rfl rfl (by decide +kernel)
set_option maxRecDepth 65536 in
theorem w_c14 : (Jvm.Cond.code ({ cls := "java/lang/Number", name := "<init>", desc := "()V" } : Jvm.MethodName) jdk_18_method_1_code (1 : Nat) (Option.none : Option Jvm.ClassFile.FieldType)).before args0 about1 = true := code_word (m := ⟨3, 0⟩) (meth := k3m0) (c := k3c0) (by decide +kernel) rfl rfl rfl (by decide +kernel)
def codes1 : List Jvm.Cond := [Jvm.Cond.code x code maxLocals ret, Jvm.Cond.code ({ cls := "java/lang/Integer", name := "valueOf", desc := "(I)Ljava/lang/Integer;" } : Jvm.MethodName) jdk_33_method_22_code (1 : Nat) (Option.some (Jvm.ClassFile.FieldType.object "java/lang/Integer")), Jvm.Cond.code ({ cls := "com/example/napkintree/napkintree/balancing/MultiwayTree$Node", name := "<init>", desc := "()V" } : Jvm.MethodName) prog_25_method_1_code (1 : Nat) (Option.none : Option Jvm.ClassFile.FieldType), Jvm.Cond.code ({ cls := "java/lang/Object", name := "<init>", desc := "()V" } : Jvm.MethodName) object_method_1_code (1 : Nat) (Option.none : Option Jvm.ClassFile.FieldType), Jvm.Cond.code ({ cls := "com/example/napkintree/napkintree/balancing/MultiwayTree$Node", name := "setEntry", desc := "(ILjava/lang/Object;Ljava/lang/Object;)V" } : Jvm.MethodName) prog_25_method_8_code (5 : Nat) (Option.none : Option Jvm.ClassFile.FieldType), Jvm.Cond.code ({ cls := "com/example/napkintree/napkintree/balancing/MultiwayTree$Node", name := "slotFor", desc := "(Ljava/lang/Object;)Ljava/lang/Object;" } : Jvm.MethodName) prog_25_method_18_code (1 : Nat) (Option.some (Jvm.ClassFile.FieldType.object "java/lang/Object")), Jvm.Cond.code ({ cls := "com/example/napkintree/napkintree/balancing/MultiwayTree$Node", name := "removeEntry", desc := "(I)V" } : Jvm.MethodName) prog_25_method_5_code (2 : Nat) (Option.none : Option Jvm.ClassFile.FieldType), Jvm.Cond.code ({ cls := "com/example/napkintree/napkintree/balancing/MultiwayTree$Node", name := "keyCount", desc := "()I" } : Jvm.MethodName) prog_25_method_16_code (1 : Nat) (Option.some Jvm.ClassFile.FieldType.int), Jvm.Cond.code ({ cls := "com/example/napkintree/napkintree/balancing/MultiwayTree$Node", name := "key", desc := "(I)Ljava/lang/Object;" } : Jvm.MethodName) prog_25_method_17_code (3 : Nat) (Option.some (Jvm.ClassFile.FieldType.object "java/lang/Object")), Jvm.Cond.code ({ cls := "com/example/napkintree/napkintree/balancing/MultiwayTree$Node", name := "keyIn", desc := "(Ljava/lang/Object;)Ljava/lang/Object;" } : Jvm.MethodName) prog_25_method_19_code (1 : Nat) (Option.some (Jvm.ClassFile.FieldType.object "java/lang/Object")), Jvm.Cond.code ({ cls := "com/example/napkintree/napkintree/balancing/NodeRemoveEntryPinLaw", name := "same", desc := "(Ljava/lang/Integer;Ljava/lang/Integer;)Z" } : Jvm.MethodName) method_2_code (2 : Nat) (Option.some Jvm.ClassFile.FieldType.boolean), Jvm.Cond.code ({ cls := "com/example/napkintree/napkintree/balancing/MultiwayTree$Node", name := "value", desc := "(I)Ljava/lang/Object;" } : Jvm.MethodName) prog_25_method_20_code (3 : Nat) (Option.some (Jvm.ClassFile.FieldType.object "java/lang/Object")), Jvm.Cond.code ({ cls := "java/lang/Integer", name := "intValue", desc := "()I" } : Jvm.MethodName) jdk_33_method_27_code (1 : Nat) (Option.some Jvm.ClassFile.FieldType.int), Jvm.Cond.code ({ cls := "java/lang/Integer", name := "<init>", desc := "(I)V" } : Jvm.MethodName) jdk_33_method_23_code (2 : Nat) (Option.none : Option Jvm.ClassFile.FieldType), Jvm.Cond.code ({ cls := "java/lang/Number", name := "<init>", desc := "()V" } : Jvm.MethodName) jdk_18_method_1_code (1 : Nat) (Option.none : Option Jvm.ClassFile.FieldType)]
set_option maxRecDepth 65536 in
theorem codes_eq : words1.filter isCode = codes1 := rfl
theorem w_codes : ∀ c ∈ words1.filter isCode, c.before args0 about1 = true := by
  rw [codes_eq]
  intro c hc
  simp only [codes1, List.mem_cons, List.not_mem_nil, or_false] at hc
  rcases hc with rfl | rfl | rfl | rfl | rfl | rfl | rfl | rfl | rfl | rfl | rfl | rfl | rfl | rfl | rfl
  · exact w_c0
  · exact w_c1
  · exact w_c2
  · exact w_c3
  · exact w_c4
  · exact w_c5
  · exact w_c6
  · exact w_c7
  · exact w_c8
  · exact w_c9
  · exact w_c10
  · exact w_c11
  · exact w_c12
  · exact w_c13
  · exact w_c14
set_option maxRecDepth 65536 in
theorem w_t1 : (words1.take 24).all (fun c => isCode c || c.before args0 about1) = true := by decide +kernel
set_option maxRecDepth 65536 in
theorem w_t2 : ((words1.drop 24).take 24).all (fun c => isCode c || c.before args0 about1) = true := by decide +kernel
set_option maxRecDepth 65536 in
theorem w_t3 : (((words1.drop 24).drop 24).take 24).all (fun c => isCode c || c.before args0 about1) = true := by decide +kernel
set_option maxRecDepth 65536 in
theorem w_t4 : (((words1.drop 24).drop 24).drop 24).all (fun c => isCode c || c.before args0 about1) = true := by decide +kernel
theorem w_tables : (allAtoms (Jvm.Cond.code x code maxLocals ret :: tables_1)).before args0 about1 = true := by
  rw [allAtoms_all]
  show words1.all (fun c => c.before args0 about1) = true
  refine all_split ?_ w_codes
  rw [← List.take_append_drop 24 words1, List.all_append, w_t1, ← List.take_append_drop 24 (words1.drop 24), List.all_append, w_t2, ← List.take_append_drop 24 ((words1.drop 24).drop 24), List.all_append, w_t3, w_t4]
  rfl
set_option maxRecDepth 65536 in
theorem w_rest : rest_1_c.before args0 about1 = true := by decide +kernel
set_option maxRecDepth 65536 in
theorem w_case : (Jvm.Cond.and given_1 narrow_1).before args0 about1 = true := by decide +kernel
theorem w_applies : (headSpec (Jvm.Cond.code x code maxLocals ret :: tables_1) room_1).applies x e0.platform about1 = true :=
  (Spec.applies_iff w_frames).mpr ⟨w_running, w_runnable, w_alone, w_named, w_hears, w_ripe, w_room, w_tables⟩
theorem atStart : AtStart classFile x code maxLocals ret World_1 tables_1 room_1 Calls_1 rest_1 Pre_1 launch0 p0 e0 about1 theMethod args0 below0 :=
  ⟨lists_1, trivial, launch0.admits_env _ _ _, launch0.least_env, fairChoices_fair.cas, fairChoices_fair.clock, w_frames, w_args, w_heap, w_applies, trivial, w_rest, w_case⟩
end start1
theorem witness_1 : WitnessClaimed_1 := ⟨start1.p0, start1.e0, start1.about1, start1.theMethod, start1.args0, start1.below0, start1.atStart⟩
end Jvm.Pilot.@@N@@
